import PyProof.Rows.All
import Wide.All
import OpenK.AllK
import Wide.FinOn
import PySem.Challenge.RW_sc0024_01
set_option Elab.async false
/-! Plain1 -/
section
namespace Mine

/-- a row holds no lone line end -/
def Free (r : List Nat) : Prop := ∀ c ∈ r, c ≠ 13 ∧ c ≠ 10

/-- quoted, from a place that is (true) or isn't (false) at a line's start -/
def q (b : Bool) : List Nat → List Nat
  | [] => []
  | c :: r =>
    if c = 13 then 13 :: 10 :: (match r with
      | [] => q true []
      | d :: r' => if d = 10 then q true r' else q true (d :: r'))
    else if c = 10 then 13 :: 10 :: q true r
    else if b = true ∧ c = 46 then 46 :: 46 :: q false r
    else c :: q false r
termination_by l => l.length

theorem take2_is {l : List Nat} {a b : Nat} (h : l.take 2 = [a, b]) : ∃ r, l = a :: b :: r := by
  cases l with
  | nil => simp at h
  | cons x l =>
    cases l with
    | nil => simp at h
    | cons y r =>
      simp at h
      exact ⟨r, by rw [h.1, h.2]⟩
theorem take1_is {l : List Nat} {a : Nat} (h : l.take 1 = [a]) : ∃ r, l = a :: r := by
  cases l with
  | nil => simp at h
  | cons x r =>
    simp at h
    exact ⟨r, by rw [h]⟩
theorem q_nil (b : Bool) : q b [] = [] := by simp [q]
theorem q_crlf (b : Bool) (r : List Nat) : q b (13 :: 10 :: r) = 13 :: 10 :: q true r := by
  rw [q.eq_def]; simp
theorem q_lf (b : Bool) (r : List Nat) : q b (10 :: r) = 13 :: 10 :: q true r := by
  rw [q.eq_def]; simp
theorem q_cr (b : Bool) (r : List Nat) (h : r.head? ≠ some 10) : q b (13 :: r) = 13 :: 10 :: q true r := by
  rw [q.eq_def]
  cases r with
  | nil => simp
  | cons d r' =>
    have : d ≠ 10 := by simpa using h
    simp [this]
theorem q_dot (r : List Nat) : q true (46 :: r) = 46 :: 46 :: q false r := by
  rw [q.eq_def]; simp
theorem q_ord (b : Bool) (c : Nat) (r : List Nat) (h1 : c ≠ 13) (h2 : c ≠ 10) (h3 : b = true → c ≠ 46) : q b (c :: r) = c :: q false r := by
  rw [q.eq_def]
  simp only []
  rw [if_neg h1, if_neg h2, if_neg (by intro h; exact h3 h.1 h.2)]

/-- induction along the ways through q -/
theorem q_ind {P : List Nat → Prop} (h0 : P []) (hcl : ∀ r, P r → P (10 :: r) → P (13 :: 10 :: r)) (hl : ∀ r, P r → P (10 :: r)) (hc : ∀ r, r.head? ≠ some 10 → P r → P (13 :: r))
    (ho : ∀ c r, c ≠ 13 → c ≠ 10 → P r → P (c :: r)) : ∀ m, P m := by
  have key : ∀ n m, m.length ≤ n → P m := by
    intro n
    induction n with
    | zero =>
      intro m hm
      have : m = [] := List.eq_nil_of_length_eq_zero (by omega)
      subst this; exact h0
    | succ n ih =>
      intro m hm
      cases m with
      | nil => exact h0
      | cons c r =>
        simp only [List.length_cons] at hm
        by_cases h1 : c = 13
        · subst h1
          cases r with
          | nil => exact hc [] (by simp) h0
          | cons d r' =>
            simp only [List.length_cons] at hm
            by_cases h2 : d = 10
            · subst h2
              exact hcl r' (ih r' (by omega)) (ih (10 :: r') (by simp only [List.length_cons]; omega))
            · exact hc (d :: r') (by simpa using h2) (ih (d :: r') (by simp only [List.length_cons]; omega))
        · by_cases h2 : c = 10
          · subst h2; exact hl r (ih r (by omega))
          · exact ho c r h1 h2 (ih r (by omega))
  exact fun m => key m.length m (Nat.le_refl _)

/-- every return of a quoted text stands ahead of a feed -/
theorem q_cr_next : ∀ (m : List Nat) (b : Bool) (pre post : List Nat), q b m = pre ++ 13 :: post → post.head? = some 10 := by
  refine q_ind ?_ ?_ ?_ ?_ ?_
  · intro b pre post h; rw [q_nil] at h; simp at h
  · intro r ih _ b pre post h
    rw [q_crlf] at h
    match pre, h with
    | [], h => simp at h; rw [← h]; rfl
    | [x], h => simp at h
    | x :: y :: pre', h => simp at h; exact ih true pre' post h.2.2
  · intro r ih b pre post h
    rw [q_lf] at h
    match pre, h with
    | [], h => simp at h; rw [← h]; rfl
    | [x], h => simp at h
    | x :: y :: pre', h => simp at h; exact ih true pre' post h.2.2
  · intro r hr ih b pre post h
    rw [q_cr b r hr] at h
    match pre, h with
    | [], h => simp at h; rw [← h]; rfl
    | [x], h => simp at h
    | x :: y :: pre', h => simp at h; exact ih true pre' post h.2.2
  · intro c r h1 h2 ih b pre post h
    by_cases h3 : b = true ∧ c = 46
    · obtain ⟨rfl, rfl⟩ := h3
      rw [q_dot] at h
      match pre, h with
      | [], h => simp at h
      | [x], h => simp at h
      | x :: y :: pre', h => simp at h; exact ih false pre' post h.2.2
    · rw [q_ord b c r h1 h2 (fun hb hc => h3 ⟨hb, hc⟩)] at h
      match pre, h with
      | [], h => simp at h; exact absurd h.1 h1
      | x :: pre', h => simp at h; exact ih false pre' post h.2

/-- every feed of a quoted text stands behind a return -/
theorem q_lf_prev : ∀ (m : List Nat) (b : Bool) (pre post : List Nat), q b m = pre ++ 10 :: post → ∃ pre', pre = pre' ++ [13] := by
  have aux : ∀ (X : List Nat), (∀ pre post, X = pre ++ 10 :: post → ∃ pre', pre = pre' ++ [13]) → ∀ pre post, 13 :: 10 :: X = pre ++ 10 :: post → ∃ pre', pre = pre' ++ [13] := by
    intro X hX pre post h
    match pre, h with
    | [], h => simp at h
    | [x], h => simp at h; exact ⟨[], by simp [h.1]⟩
    | x :: y :: pre', h =>
      simp at h
      obtain ⟨p, e⟩ := hX pre' post h.2.2
      exact ⟨x :: y :: p, by simp [e]⟩
  refine q_ind ?_ ?_ ?_ ?_ ?_
  · intro b pre post h; rw [q_nil] at h; simp at h
  · intro r ih _ b pre post h
    rw [q_crlf] at h; exact aux _ (ih true) pre post h
  · intro r ih b pre post h
    rw [q_lf] at h; exact aux _ (ih true) pre post h
  · intro r hr ih b pre post h
    rw [q_cr b r hr] at h; exact aux _ (ih true) pre post h
  · intro c r h1 h2 ih b pre post h
    by_cases h3 : b = true ∧ c = 46
    · obtain ⟨rfl, rfl⟩ := h3
      rw [q_dot] at h
      match pre, h with
      | [], h => simp at h
      | [x], h => simp at h
      | x :: y :: pre', h =>
        simp at h
        obtain ⟨p, e⟩ := ih false pre' post h.2.2
        exact ⟨x :: y :: p, by simp [e]⟩
    · rw [q_ord b c r h1 h2 (fun hb hc => h3 ⟨hb, hc⟩)] at h
      match pre, h with
      | [], h => simp at h; exact absurd h.1 h2
      | x :: pre', h =>
        simp at h
        obtain ⟨p, e⟩ := ih false pre' post h.2
        exact ⟨x :: p, by simp [e]⟩

/-- rows behind the first, each with return and feed ahead -/
def E : List (List Nat) → List Nat
  | [] => []
  | r :: rest => 13 :: 10 :: (r ++ E rest)

/-- the row of the mail whose quoted row this row is (part of) -/
def undot (last : Bool) (row : List Nat) : Option (List Nat) :=
  if row.take 2 = [46, 46] then some (row.drop 1)
  else if row.take 1 = [46] ∧ ¬ (last = true ∧ row = [46]) then none
  else some row

/-- what may stand in the mail in the place of the rows behind the first -/
def Ch : List (List Nat) → List Nat → Prop
  | [], u => u = []
  | row :: rest, u => ∃ row', undot rest.isEmpty row = some row' ∧ ∃ t, Ch rest t ∧
      ((u = 13 :: (row' ++ t) ∧ (row' ++ t).head? ≠ some 10) ∨ u = 10 :: (row' ++ t) ∨ (u = 13 :: 10 :: (row' ++ t) ∧ row' ++ t ≠ []))

theorem E_or (rest : List (List Nat)) : E rest = [] ∨ ∃ X, E rest = 13 :: 10 :: X := by
  cases rest with
  | nil => exact .inl rfl
  | cons r t => exact .inr ⟨_, rfl⟩

theorem prefix_cons {a b : Nat} {X Y : List Nat} : (a :: X <+: b :: Y) ↔ a = b ∧ X <+: Y := by
  constructor
  · intro h; exact List.cons_prefix_cons.mp h
  · intro h; exact List.cons_prefix_cons.mpr h

/-- a free row, then Y, at a place behind a row's start -/
theorem row_prefix : ∀ (r : List Nat), Free r → ∀ (Y N : List Nat), (r ++ Y <+: q false N) ↔ ∃ N3, N = r ++ N3 ∧ Y <+: q false N3
  | [], _, Y, N => by simp
  | c :: r, hr, Y, N => by
    have hc := hr c (by simp)
    have hr' : Free r := fun d hd => hr d (by simp [hd])
    rw [List.cons_append]
    cases N with
    | nil => simp [q_nil]
    | cons d N =>
      by_cases h1 : d = 13
      · subst h1
        have : ∃ X, q false (13 :: N) = 13 :: X := by
          by_cases h2 : N.head? = some 10
          · cases N with
            | nil => simp at h2
            | cons e N' => simp at h2; subst h2; exact ⟨_, q_crlf _ _⟩
          · exact ⟨_, q_cr _ _ h2⟩
        obtain ⟨X, hX⟩ := this
        rw [hX, prefix_cons]
        constructor
        · intro h; exact absurd h.1 hc.1
        · rintro ⟨N3, e, _⟩; simp at e; exact absurd e.1.symm hc.1
      · by_cases h2 : d = 10
        · subst h2
          rw [q_lf, prefix_cons]
          constructor
          · intro h; exact absurd h.1 hc.1
          · rintro ⟨N3, e, _⟩; simp at e; exact absurd e.1.symm hc.2
        · rw [q_ord false d N h1 h2 (by simp), prefix_cons, row_prefix r hr' Y N]
          constructor
          · rintro ⟨rfl, N3, rfl, h⟩; exact ⟨N3, rfl, h⟩
          · rintro ⟨N3, e, h⟩
            simp at e
            exact ⟨e.1.symm, N3, e.2, h⟩

/-- a line end asks nothing of whether the place is at a line's start -/
theorem E_flag (rest : List (List Nat)) (N : List Nat) : (E rest <+: q true N) ↔ (E rest <+: q false N) := by
  rcases E_or rest with h | ⟨X, h⟩
  · rw [h]; simp
  · rw [h]
    cases N with
    | nil => simp [q_nil]
    | cons c r =>
      by_cases h1 : c = 13
      · subst h1
        by_cases h2 : r.head? = some 10
        · cases r with
          | nil => simp at h2
          | cons e N' => simp at h2; subst h2; rw [q_crlf, q_crlf]
        · rw [q_cr _ _ h2, q_cr _ _ h2]
      · by_cases h2 : c = 10
        · subst h2; rw [q_lf, q_lf]
        · rw [q_ord false c r h1 h2 (by simp)]
          by_cases h3 : c = 46
          · subst h3; rw [q_dot]; simp [prefix_cons]
          · rw [q_ord true c r h1 h2 (fun _ => h3)]

/-- a row at a line's start, then the rows behind it -/
theorem row_start (row : List Nat) (hr : Free row) (rest : List (List Nat)) (N : List Nat) :
    (row ++ E rest <+: q true N) ↔ ∃ row', undot rest.isEmpty row = some row' ∧ ∃ N3, N = row' ++ N3 ∧ E rest <+: q false N3 := by
  match row, hr with
  | [], _ => simp [undot, E_flag]
  | c :: r, hr =>
    have hc := hr c (by simp)
    have hr' : Free r := fun d hd => hr d (by simp [hd])
    by_cases h46 : c = 46
    · subst h46
      -- the mail's row begins with a dot
      have left : (46 :: r ++ E rest <+: q true N) ↔ ∃ N2, N = 46 :: N2 ∧ r ++ E rest <+: 46 :: q false N2 := by
        cases N with
        | nil => simp [q_nil]
        | cons d N =>
          by_cases h1 : d = 13
          · subst h1
            have : ∃ X, q true (13 :: N) = 13 :: X := by
              by_cases h2 : N.head? = some 10
              · cases N with
                | nil => simp at h2
                | cons e N' => simp at h2; subst h2; exact ⟨_, q_crlf _ _⟩
              · exact ⟨_, q_cr _ _ h2⟩
            obtain ⟨X, hX⟩ := this
            rw [hX]; simp [prefix_cons]
          · by_cases h2 : d = 10
            · subst h2; rw [q_lf]; simp [prefix_cons]
            · by_cases h3 : d = 46
              · subst h3; rw [q_dot]; simp [prefix_cons]
              · rw [q_ord true d N h1 h2 (fun _ => h3)]
                simp [prefix_cons, Ne.symm h3, h3]
      rw [left]
      match r, hr' with
      | [], _ =>
        rcases E_or rest with h | ⟨X, h⟩
        · have hl : rest = [] := by
            cases rest with
            | nil => rfl
            | cons a b => simp [E] at h
          subst hl
          simp [undot, E]
        · have hl : rest.isEmpty = false := by
            cases rest with
            | nil => simp [E] at h
            | cons a b => rfl
          rw [hl]
          have : undot false [46] = none := by decide
          rw [this, h]
          simp [prefix_cons]
      | d :: r2, hr2 =>
        by_cases hd : d = 46
        · subst hd
          have hr2' : Free r2 := fun e he => hr2 e (by simp [he])
          have : undot rest.isEmpty (46 :: 46 :: r2) = some (46 :: r2) := by simp [undot]
          rw [this]
          simp only [Option.some.injEq, exists_eq_left', List.cons_append, prefix_cons, true_and]
          constructor
          · rintro ⟨N2, rfl, h⟩
            rw [row_prefix r2 hr2'] at h
            obtain ⟨N3, rfl, h⟩ := h
            exact ⟨N3, rfl, h⟩
          · rintro ⟨N3, rfl, h⟩
            exact ⟨r2 ++ N3, rfl, (row_prefix r2 hr2' _ _).mpr ⟨N3, rfl, h⟩⟩
        · have : undot rest.isEmpty (46 :: d :: r2) = none := by simp [undot, hd]
          rw [this]
          simp [prefix_cons, hd]
    · have hu : undot rest.isEmpty (c :: r) = some (c :: r) := by
        have h1 : List.take 2 (c :: r) ≠ [46, 46] := by
          cases r <;> simp [h46]
        simp [undot, h1, h46]
      rw [hu]
      simp only [Option.some.injEq, exists_eq_left']
      have hqq : (c :: r ++ E rest <+: q true N) ↔ (c :: r ++ E rest <+: q false N) := by
        cases N with
        | nil => simp [q_nil]
        | cons d N =>
          by_cases h1 : d = 13
          · subst h1
            by_cases h2 : N.head? = some 10
            · cases N with
              | nil => simp at h2
              | cons e N' => simp at h2; subst h2; rw [q_crlf, q_crlf]
            · rw [q_cr _ _ h2, q_cr _ _ h2]
          · by_cases h2 : d = 10
            · subst h2; rw [q_lf, q_lf]
            · by_cases h3 : d = 46
              · subst h3
                rw [q_dot, q_ord false 46 N (by decide) (by decide) (by simp)]
                simp [prefix_cons, h46]
              · rw [q_ord true d N h1 h2 (fun _ => h3), q_ord false d N h1 h2 (by simp)]
      rw [hqq]
      exact row_prefix (c :: r) hr (E rest) N

/-- a line end, then X at a line's start -/
theorem end_prefix (b : Bool) (X N : List Nat) : (13 :: 10 :: X <+: q b N) ↔
    ∃ N', ((N = 13 :: N' ∧ N'.head? ≠ some 10) ∨ N = 10 :: N' ∨ N = 13 :: 10 :: N') ∧ X <+: q true N' := by
  cases N with
  | nil => simp [q_nil]
  | cons c r =>
    by_cases h1 : c = 13
    · subst h1
      by_cases h2 : r.head? = some 10
      · cases r with
        | nil => simp at h2
        | cons e N' =>
          simp at h2; subst h2
          rw [q_crlf]; simp only [prefix_cons, true_and]
          constructor
          · intro h; exact ⟨N', .inr (.inr rfl), h⟩
          · rintro ⟨N'', h | h | h, hx⟩
            · obtain ⟨e, hne⟩ := h; simp at e; subst e; simp at hne
            · simp at h
            · simp at h; subst h; exact hx
      · rw [q_cr _ _ h2]; simp only [prefix_cons, true_and]
        constructor
        · intro h; exact ⟨r, .inl ⟨rfl, h2⟩, h⟩
        · rintro ⟨N'', h | h | h, hx⟩
          · obtain ⟨e, hne⟩ := h; simp at e; subst e; exact hx
          · simp at h
          · simp at h; subst h; simp at h2
    · by_cases h2 : c = 10
      · subst h2
        rw [q_lf]; simp only [prefix_cons, true_and]
        constructor
        · intro h; exact ⟨r, .inr (.inl rfl), h⟩
        · rintro ⟨N'', h | h | h, hx⟩
          · simp at h
          · simp at h; subst h; exact hx
          · simp at h
      · constructor
        · intro h
          by_cases h3 : b = true ∧ c = 46
          · obtain ⟨rfl, rfl⟩ := h3; rw [q_dot] at h; simp [prefix_cons] at h
          · rw [q_ord b c r h1 h2 (fun hb hc => h3 ⟨hb, hc⟩)] at h
            simp only [prefix_cons] at h
            exact absurd h.1.symm h1
        · rintro ⟨N'', h | h | h, hx⟩
          · simp [h1] at h
          · simp [h2] at h
          · simp [h1] at h

/-- the rows behind the first, told at the mail -/
theorem E_told : ∀ (rest : List (List Nat)), (∀ r ∈ rest, Free r) → ∀ (b : Bool) (N : List Nat), (E rest <+: q b N) ↔ ∃ u, Ch rest u ∧ u <+: N
  | [], _, b, N => by simp [E, Ch]
  | row :: rest, hf, b, N => by
    have hrow := hf row (by simp)
    have hrest : ∀ r ∈ rest, Free r := fun r hr => hf r (by simp [hr])
    have ih := E_told rest hrest
    show (13 :: 10 :: (row ++ E rest) <+: q b N) ↔ _
    rw [end_prefix]
    constructor
    · rintro ⟨N', hN, hx⟩
      rw [row_start row hrow] at hx
      obtain ⟨row', hu, N3, rfl, h3⟩ := hx
      obtain ⟨t, ht, hp⟩ := (ih false N3).mp h3
      have hp' : row' ++ t <+: row' ++ N3 := List.prefix_append_right_inj row' |>.mpr hp
      rcases hN with ⟨rfl, hne⟩ | rfl | rfl
      · refine ⟨13 :: (row' ++ t), ⟨row', hu, t, ht, .inl ⟨rfl, ?_⟩⟩, prefix_cons.mpr ⟨rfl, hp'⟩⟩
        intro hh
        obtain ⟨z, hz⟩ := hp'
        rw [← hz] at hne
        cases hrt : row' ++ t with
        | nil => rw [hrt] at hh; simp at hh
        | cons a l => rw [hrt] at hh hne; simp at hh hne; exact hne hh
      · exact ⟨10 :: (row' ++ t), ⟨row', hu, t, ht, .inr (.inl rfl)⟩, prefix_cons.mpr ⟨rfl, hp'⟩⟩
      · by_cases hn : row' ++ t = []
        · refine ⟨13 :: (row' ++ t), ⟨row', hu, t, ht, .inl ⟨rfl, by rw [hn]; simp⟩⟩, ?_⟩
          rw [hn]; exact ⟨10 :: (row' ++ N3), rfl⟩
        · exact ⟨13 :: 10 :: (row' ++ t), ⟨row', hu, t, ht, .inr (.inr ⟨rfl, hn⟩)⟩, prefix_cons.mpr ⟨rfl, prefix_cons.mpr ⟨rfl, hp'⟩⟩⟩
    · rintro ⟨u, ⟨row', hu, t, ht, hcase⟩, hp⟩
      have back : ∀ N', row' ++ t <+: N' → row ++ E rest <+: q true N' := by
        intro N' h
        rw [row_start row hrow]
        obtain ⟨z, hz⟩ := h
        refine ⟨row', hu, t ++ z, by rw [← hz, List.append_assoc], (ih false _).mpr ⟨t, ht, ⟨z, rfl⟩⟩⟩
      rcases hcase with ⟨rfl, hne⟩ | rfl | ⟨rfl, hne⟩
      · cases N with
        | nil => simp at hp
        | cons c N' =>
          rw [prefix_cons] at hp
          obtain ⟨rfl, hp⟩ := hp
          by_cases h10 : N'.head? = some 10
          · cases N' with
            | nil => simp at h10
            | cons d N'' =>
              simp at h10; subst h10
              have hn : row' ++ t = [] := by
                cases hrt : row' ++ t with
                | nil => rfl
                | cons a l =>
                  rw [hrt] at hp hne
                  rw [prefix_cons] at hp
                  simp at hne
                  exact absurd hp.1 hne
              exact ⟨N'', .inr (.inr rfl), back N'' (by rw [hn]; exact List.nil_prefix)⟩
          · exact ⟨N', .inl ⟨rfl, h10⟩, back N' hp⟩
      · cases N with
        | nil => simp at hp
        | cons c N' =>
          rw [prefix_cons] at hp
          obtain ⟨rfl, hp⟩ := hp
          exact ⟨N', .inr (.inl rfl), back N' hp⟩
      · cases N with
        | nil => simp at hp
        | cons c N' =>
          rw [prefix_cons] at hp
          obtain ⟨rfl, hp⟩ := hp
          cases N' with
          | nil => simp at hp
          | cons d N'' =>
            rw [prefix_cons] at hp
            obtain ⟨rfl, hp⟩ := hp
            exact ⟨N'', .inr (.inr rfl), back N'' hp⟩

end Mine

end
/-! Plain2 -/
section
namespace Mine

/-- a part that ends the mail, quoted from within a line, ends the quoted mail -/
theorem q_false_suffix : ∀ (m : List Nat) (b : Bool) (N : List Nat), N <:+ m → q false N <:+ q b m := by
  have self : ∀ (m : List Nat) (b : Bool), q false m <:+ q b m := by
    intro m b
    cases b with
    | false => exact List.suffix_refl _
    | true =>
      cases m with
      | nil => simp [q_nil]
      | cons c r =>
        by_cases h1 : c = 13
        · subst h1
          by_cases h2 : r.head? = some 10
          · cases r with
            | nil => simp at h2
            | cons e N' => simp at h2; subst h2; rw [q_crlf, q_crlf]; exact List.suffix_refl _
          · rw [q_cr _ _ h2, q_cr _ _ h2]; exact List.suffix_refl _
        · by_cases h2 : c = 10
          · subst h2; rw [q_lf, q_lf]; exact List.suffix_refl _
          · by_cases h3 : c = 46
            · subst h3; rw [q_dot, q_ord false 46 r (by decide) (by decide) (by simp)]; exact List.suffix_cons _ _
            · rw [q_ord true c r h1 h2 (fun _ => h3), q_ord false c r h1 h2 (by simp)]; exact List.suffix_refl _
  refine q_ind ?_ ?_ ?_ ?_ ?_
  · intro b N h; have : N = [] := by simpa using h
    subst this; simp [q_nil]
  · intro r ih ih2 b N h
    rcases List.suffix_cons_iff.mp h with rfl | h
    · exact self _ _
    · rw [q_crlf]
      have := ih2 false N h
      rw [q_lf] at this
      exact this
  · intro r ih b N h
    rcases List.suffix_cons_iff.mp h with rfl | h
    · exact self _ _
    · rw [q_lf]; exact (ih true N h).trans ((List.suffix_cons _ _).trans (List.suffix_cons _ _))
  · intro r hr ih b N h
    rcases List.suffix_cons_iff.mp h with rfl | h
    · exact self _ _
    · rw [q_cr _ _ hr]; exact (ih true N h).trans ((List.suffix_cons _ _).trans (List.suffix_cons _ _))
  · intro c r h1 h2 ih b N h
    rcases List.suffix_cons_iff.mp h with rfl | h'
    · exact self _ _
    · by_cases h3 : b = true ∧ c = 46
      · obtain ⟨rfl, rfl⟩ := h3
        rw [q_dot]; exact (ih false N h').trans ((List.suffix_cons _ _).trans (List.suffix_cons _ _))
      · rw [q_ord b c r h1 h2 (fun hb hc => h3 ⟨hb, hc⟩)]; exact (ih false N h').trans (List.suffix_cons _ _)

/-- behind a line end of the mail, quoted from a line's start -/
theorem q_true_suffix (c : Nat) (hc : c = 13 ∨ c = 10) (N m : List Nat) (b : Bool) (h : c :: N <:+ m) : q true N <:+ q b m := by
  have h1 := q_false_suffix m b _ h
  refine List.IsSuffix.trans ?_ h1
  rcases hc with rfl | rfl
  · by_cases h2 : N.head? = some 10
    · cases N with
      | nil => simp at h2
      | cons e N' => simp at h2; subst h2; rw [q_crlf, q_lf]; exact List.suffix_refl _
    · rw [q_cr _ _ h2]; exact (List.suffix_cons _ _).trans (List.suffix_cons _ _)
  · rw [q_lf]; exact (List.suffix_cons _ _).trans (List.suffix_cons _ _)

/-- where a text that begins with no feed may stand in a quoted mail -/
theorem q_infix (Y : List Nat) (hY : Y.head? ≠ some 10) : ∀ (m : List Nat) (b : Bool), (Y <:+: q b m) →
    (Y <+: q b m) ∨ (∃ N, N <:+ m ∧ Y <+: q false N) ∨ (∃ c N, (c = 13 ∨ c = 10) ∧ c :: N <:+ m ∧ Y <+: q true N) := by
  by_cases hn : Y = []
  · subst hn; intro m b _; exact .inl List.nil_prefix
  have no10 : ∀ X, ¬ Y <+: 10 :: X := by
    intro X h
    cases Y with
    | nil => exact hn rfl
    | cons a l => rw [prefix_cons] at h; rw [h.1] at hY; simp at hY
  -- behind return and feed
  have ends : ∀ (b : Bool) (r m : List Nat), (∃ c, (c = 13 ∨ c = 10) ∧ c :: r <:+ m) → q b m = 13 :: 10 :: q true r →
      ((Y <:+: q true r) → (Y <+: q true r) ∨ (∃ N, N <:+ r ∧ Y <+: q false N) ∨ (∃ c N, (c = 13 ∨ c = 10) ∧ c :: N <:+ r ∧ Y <+: q true N)) →
      (Y <:+: q b m) → (Y <+: q b m) ∨ (∃ N, N <:+ m ∧ Y <+: q false N) ∨ (∃ c N, (c = 13 ∨ c = 10) ∧ c :: N <:+ m ∧ Y <+: q true N) := by
    intro b r m ⟨c, hc, hs⟩ e ih h
    rw [e] at h
    rcases List.infix_cons_iff.mp h with h | h
    · exact .inl (e ▸ h)
    · rcases List.infix_cons_iff.mp h with h | h
      · exact absurd h (no10 _)
      · have hrm : r <:+ m := (List.suffix_cons _ _).trans hs
        rcases ih h with h | ⟨N, hN, h⟩ | ⟨d, N, hd, hN, h⟩
        · exact .inr (.inr ⟨c, r, hc, hs, h⟩)
        · exact .inr (.inl ⟨N, hN.trans hrm, h⟩)
        · exact .inr (.inr ⟨d, N, hd, hN.trans hrm, h⟩)
  refine q_ind ?_ ?_ ?_ ?_ ?_
  · intro b h; rw [q_nil] at h; exact absurd (by simpa using h) hn
  · intro r ih _ b h
    exact ends b r _ ⟨10, .inr rfl, List.suffix_cons _ _⟩ (q_crlf b r) (ih true) h
  · intro r ih b h
    exact ends b r _ ⟨10, .inr rfl, List.suffix_refl _⟩ (q_lf b r) (ih true) h
  · intro r hr ih b h
    exact ends b r _ ⟨13, .inl rfl, List.suffix_refl _⟩ (q_cr b r hr) (ih true) h
  · intro c r h1 h2 ih b h
    have more : ∀ X, (Y <:+: q false r) → (Y <+: X) ∨ (∃ N, N <:+ c :: r ∧ Y <+: q false N) ∨ (∃ c' N, (c' = 13 ∨ c' = 10) ∧ c' :: N <:+ c :: r ∧ Y <+: q true N) := by
      intro X h
      rcases ih false h with h | ⟨N, hN, h⟩ | ⟨d, N, hd, hN, h⟩
      · exact .inr (.inl ⟨r, List.suffix_cons _ _, h⟩)
      · exact .inr (.inl ⟨N, hN.trans (List.suffix_cons _ _), h⟩)
      · exact .inr (.inr ⟨d, N, hd, hN.trans (List.suffix_cons _ _), h⟩)
    by_cases h3 : b = true ∧ c = 46
    · obtain ⟨rfl, rfl⟩ := h3
      rw [q_dot] at h
      rcases List.infix_cons_iff.mp h with h | h
      · exact .inl (by rw [q_dot]; exact h)
      · rcases List.infix_cons_iff.mp h with h | h
        · exact .inr (.inl ⟨46 :: r, List.suffix_refl _, by rw [q_ord false 46 r (by decide) (by decide) (by simp)]; exact h⟩)
        · exact more _ h
    · have e := q_ord b c r h1 h2 (fun hb hc => h3 ⟨hb, hc⟩)
      rw [e] at h
      rcases List.infix_cons_iff.mp h with h | h
      · exact .inl (e ▸ h)
      · exact more _ h

theorem infix_of_prefix_suffix {X N m : List Nat} (h1 : X <+: N) (h2 : N <:+ m) : X <:+: m := h1.isInfix.trans h2.isInfix

/-- what may stand in the mail in the place of the whole word -/
def Whole (row0 : List Nat) (rest : List (List Nat)) (u : List Nat) : Prop :=
  ∃ t, Ch rest t ∧ (u = row0 ++ t ∨ ∃ r, row0 = 46 :: 46 :: r ∧ (u = 10 :: 46 :: (r ++ t) ∨ u = 13 :: 46 :: (r ++ t)))

theorem whole_told (row0 : List Nat) (rest : List (List Nat)) (h0 : Free row0) (hr : ∀ r ∈ rest, Free r) (m : List Nat) :
    (row0 ++ E rest <:+: q false m) ↔ ∃ u, Whole row0 rest u ∧ u <:+: m := by
  have hY : (row0 ++ E rest).head? ≠ some 10 := by
    cases row0 with
    | nil =>
      rcases E_or rest with h | ⟨X, h⟩ <;> rw [h] <;> simp
    | cons a l => have := h0 a (by simp); simp [this.2]
  -- within a line
  have inner : ∀ N, (row0 ++ E rest <+: q false N) ↔ ∃ t, Ch rest t ∧ row0 ++ t <+: N := by
    intro N
    rw [row_prefix row0 h0]
    constructor
    · rintro ⟨N3, rfl, h⟩
      obtain ⟨t, ht, hp⟩ := (E_told rest hr _ _).mp h
      exact ⟨t, ht, (List.prefix_append_right_inj row0).mpr hp⟩
    · rintro ⟨t, ht, z, hz⟩
      exact ⟨t ++ z, by rw [← hz, List.append_assoc], (E_told rest hr _ _).mpr ⟨t, ht, z, rfl⟩⟩
  constructor
  · intro h
    rcases q_infix _ hY m false h with h | ⟨N, hN, h⟩ | ⟨c, N, hc, hN, h⟩
    · obtain ⟨t, ht, hp⟩ := (inner m).mp h
      exact ⟨row0 ++ t, ⟨t, ht, .inl rfl⟩, hp.isInfix⟩
    · obtain ⟨t, ht, hp⟩ := (inner N).mp h
      exact ⟨row0 ++ t, ⟨t, ht, .inl rfl⟩, infix_of_prefix_suffix hp hN⟩
    · rw [row_start row0 h0] at h
      obtain ⟨row', hu, N3, rfl, h3⟩ := h
      obtain ⟨t, ht, hp⟩ := (E_told rest hr _ _).mp h3
      have hp' : row' ++ t <+: row' ++ N3 := (List.prefix_append_right_inj row').mpr hp
      unfold undot at hu
      split at hu
      · rename_i h2
        cases hu
        obtain ⟨r, er⟩ := take2_is h2
        · subst er
          simp only [List.drop_succ_cons, List.drop_zero, List.cons_append] at hN hp' ⊢
          rcases hc with rfl | rfl
          · exact ⟨13 :: 46 :: (r ++ t), ⟨t, ht, .inr ⟨r, rfl, .inr rfl⟩⟩, infix_of_prefix_suffix (prefix_cons.mpr ⟨rfl, hp'⟩) hN⟩
          · exact ⟨10 :: 46 :: (r ++ t), ⟨t, ht, .inr ⟨r, rfl, .inl rfl⟩⟩, infix_of_prefix_suffix (prefix_cons.mpr ⟨rfl, hp'⟩) hN⟩
      · split at hu
        · cases hu
        · cases hu
          exact ⟨row0 ++ t, ⟨t, ht, .inl rfl⟩, infix_of_prefix_suffix hp' ((List.suffix_cons _ _).trans hN)⟩
  · rintro ⟨u, ⟨t, ht, hcase⟩, hu⟩
    rcases hcase with rfl | ⟨r, rfl, hcase⟩
    · obtain ⟨a, z, e⟩ := hu
      have hs : row0 ++ t ++ z <:+ m := ⟨a, by rw [← e]; simp⟩
      exact infix_of_prefix_suffix ((inner _).mpr ⟨t, ht, List.prefix_append _ _⟩) (q_false_suffix m false _ hs)
    · have go : ∀ c, (c = 13 ∨ c = 10) → c :: 46 :: (r ++ t) <:+: m → 46 :: 46 :: r ++ E rest <:+: q false m := by
        intro c hc hu
        obtain ⟨a, z, e⟩ := hu
        have hs : c :: (46 :: (r ++ t) ++ z) <:+ m := ⟨a, by rw [← e]; simp⟩
        refine infix_of_prefix_suffix ?_ (q_true_suffix c hc _ m false hs)
        rw [row_start _ h0]
        refine ⟨46 :: r, by simp [undot], t ++ z, by simp, (E_told rest hr _ _).mpr ⟨t, ht, z, rfl⟩⟩
      rcases hcase with rfl | rfl
      · exact go 10 (.inr rfl) hu
      · exact go 13 (.inl rfl) hu

/-! ## cut at return and feed -/
def sp : List Nat → List (List Nat)
  | [] => [[]]
  | c :: r =>
    if c = 13 ∧ r.head? = some 10 then [] :: sp r.tail
    else match sp r with
      | h :: t => (c :: h) :: t
      | [] => [[c]]
termination_by l => l.length
decreasing_by all_goals simp_wf <;> omega

theorem sp_nil : sp [] = [[]] := by simp [sp]
theorem sp_end (r : List Nat) : sp (13 :: 10 :: r) = [] :: sp r := by rw [sp.eq_def]; simp
theorem sp_ne : ∀ w, sp w ≠ [] := by
  intro w
  cases w with
  | nil => simp [sp]
  | cons c r =>
    rw [sp.eq_def]
    simp only []
    split
    · simp
    · split <;> simp
theorem sp_cons (c : Nat) (r : List Nat) (h : ¬ (c = 13 ∧ r.head? = some 10)) : ∃ h t, sp r = h :: t ∧ sp (c :: r) = (c :: h) :: t := by
  cases e : sp r with
  | nil => exact absurd e (sp_ne r)
  | cons a l => exact ⟨a, l, rfl, by rw [sp.eq_def]; simp only []; rw [if_neg h, e]⟩

/-- no lone line end: neither at its front or back nor within -/
def Nice (w : List Nat) : Prop := (∀ pre post, w = pre ++ 13 :: post → post.head? = some 10) ∧ (∀ pre post, w = pre ++ 10 :: post → ∃ pre', pre = pre' ++ [13])

theorem Nice.tail2 {w : List Nat} (h : Nice (13 :: 10 :: w)) : Nice w := by
  refine ⟨fun pre post e => h.1 (13 :: 10 :: pre) post (by simp [e]), fun pre post e => ?_⟩
  obtain ⟨p, hp⟩ := h.2 (13 :: 10 :: pre) post (by simp [e])
  match p, hp with
  | [], hp => simp at hp
  | [x], hp => simp at hp
  | x :: y :: p', hp => simp at hp; exact ⟨p', hp.2.2⟩
theorem Nice.tail1 {c : Nat} {w : List Nat} (hc : c ≠ 13) (h : Nice (c :: w)) : Nice w := by
  refine ⟨fun pre post e => h.1 (c :: pre) post (by simp [e]), fun pre post e => ?_⟩
  obtain ⟨p, hp⟩ := h.2 (c :: pre) post (by simp [e])
  match p, hp with
  | [], hp => simp at hp; exact absurd hp.1 hc
  | x :: p', hp => simp at hp; exact ⟨p', hp.2⟩

theorem sp_free : ∀ (n : Nat) (w : List Nat), w.length ≤ n → Nice w → ∀ r ∈ sp w, Free r := by
  intro n
  induction n with
  | zero =>
    intro w hw _
    have : w = [] := List.eq_nil_of_length_eq_zero (by omega)
    subst this; simp [sp, Free]
  | succ n ih =>
    intro w hw hN r hr
    cases w with
    | nil => simp [sp] at hr; subst hr; simp [Free]
    | cons c w =>
      simp only [List.length_cons] at hw
      by_cases hc : c = 13
      · subst hc
        have h10 := hN.1 [] w rfl
        cases w with
        | nil => simp at h10
        | cons d w =>
          simp at h10; subst h10
          rw [sp_end] at hr
          rcases List.mem_cons.mp hr with rfl | hr
          · simp [Free]
          · simp only [List.length_cons] at hw
            exact ih w (by omega) hN.tail2 r hr
      · have hc10 : c ≠ 10 := by
          intro e; subst e
          obtain ⟨p, hp⟩ := hN.2 [] w rfl
          simp at hp
        obtain ⟨h, t, e1, e2⟩ := sp_cons c w (fun x => hc x.1)
        rw [e2] at hr
        have ih' := ih w (by omega) (hN.tail1 hc)
        rcases List.mem_cons.mp hr with rfl | hr
        · intro d hd
          rcases List.mem_cons.mp hd with rfl | hd
          · exact ⟨hc, hc10⟩
          · exact ih' h (by rw [e1]; simp) d hd
        · exact ih' r (by rw [e1]; simp [hr])

theorem sp_join : ∀ (n : Nat) (w : List Nat), w.length ≤ n → ∀ r0 rest, sp w = r0 :: rest → w = r0 ++ E rest := by
  intro n
  induction n with
  | zero =>
    intro w hw r0 rest h
    have : w = [] := List.eq_nil_of_length_eq_zero (by omega)
    subst this; simp [sp] at h; obtain ⟨rfl, rfl⟩ := h; rfl
  | succ n ih =>
    intro w hw r0 rest h
    cases w with
    | nil => simp [sp] at h; obtain ⟨rfl, rfl⟩ := h; rfl
    | cons c w =>
      simp only [List.length_cons] at hw
      by_cases hc : c = 13 ∧ w.head? = some 10
      · obtain ⟨rfl, h10⟩ := hc
        cases w with
        | nil => simp at h10
        | cons d w =>
          simp at h10; subst h10
          rw [sp_end] at h
          simp at h
          obtain ⟨rfl, rfl⟩ := h
          cases e : sp w with
          | nil => exact absurd e (sp_ne w)
          | cons a l =>
            simp only [List.length_cons] at hw
            have := ih w (by omega) a l e
            simp [E, this]
      · obtain ⟨h', t, e1, e2⟩ := sp_cons c w hc
        rw [e2] at h
        simp at h
        obtain ⟨rfl, rfl⟩ := h
        have := ih w (by omega) h' t e1
        simp [this]

end Mine

end
/-! Plain3 -/
section
namespace Mine

/-- one row more behind each front -/
def step (fronts : List (List Nat)) (row : List Nat) (last : Bool) : List (List Nat) :=
  fronts.flatMap fun f => (f ++ 13 :: row) :: ((if f.getLast? = some 13 then [] else [f ++ 10 :: row]) ++ (if f ≠ [] ∧ ¬ (last = true ∧ row = []) then [f ++ 13 :: 10 :: row] else []))

def run : List (List Nat) → List (List Nat) → List (List Nat)
  | fronts, [] => fronts
  | fronts, row :: rest => match undot rest.isEmpty row with
    | none => []
    | some row' => run (step fronts row' rest.isEmpty) rest

def fronts0 (row0 : List Nat) : List (List Nat) := row0 :: (if row0.take 2 = [46, 46] then [10 :: row0.drop 1, 13 :: row0.drop 1] else [])

def front1 (w : List Nat) : List Nat := if w.head? = some 10 then 13 :: w else w
def back1 (w : List Nat) : List Nat := if w.getLast? = some 13 then w ++ [10] else w
def compl (w : List Nat) : List Nat := back1 (front1 w)
def lone (row : List Nat) : Bool := row.contains 13 || row.contains 10

def undone (w : List Nat) : List (List Nat) :=
  if (sp (compl w)).any lone then [] else match sp (compl w) with
    | row0 :: rest => run (fronts0 row0) rest
    | [] => []

theorem lone_free {rows : List (List Nat)} : rows.any lone = false ↔ ∀ r ∈ rows, Free r := by
  rw [List.any_eq_false]
  refine forall_congr' fun r => forall_congr' fun _ => ?_
  simp only [lone, Bool.or_eq_true, List.contains_iff_mem, not_or, Free]
  constructor
  · intro h c hc
    exact ⟨fun e => h.1 (e ▸ hc), fun e => h.2 (e ▸ hc)⟩
  · intro h
    exact ⟨fun e => (h _ e).1 rfl, fun e => (h _ e).2 rfl⟩

theorem undot_free {last : Bool} {row row' : List Nat} (h : undot last row = some row') (hr : Free row) : Free row' := by
  unfold undot at h
  split at h
  · cases h; exact fun c hc => hr c (List.mem_of_mem_drop hc)
  · split at h
    · cases h
    · cases h; exact hr

theorem free_head {r t : List Nat} (hr : Free r) (hn : r ≠ []) : (r ++ t).head? ≠ some 10 := by
  cases r with
  | nil => exact absurd rfl hn
  | cons a l => simp [(hr a (by simp)).2]
theorem free_last {r : List Nat} (hr : Free r) : r.getLast? ≠ some 13 := by
  intro h
  exact (hr 13 (List.mem_of_getLast? h)).1 rfl

theorem Ch_nil {rest : List (List Nat)} {t : List Nat} (h : Ch rest t) : t = [] ↔ rest = [] := by
  cases rest with
  | nil => simp only [Ch] at h; simp [h]
  | cons row rest =>
    obtain ⟨row', _, t', _, h | h | h⟩ := h
    · simp [h.1]
    · simp [h]
    · simp [h.1]

theorem mem_step {fronts : List (List Nat)} {row : List Nat} {last : Bool} {g : List Nat} : g ∈ step fronts row last ↔
    ∃ f ∈ fronts, g = f ++ 13 :: row ∨ (f.getLast? ≠ some 13 ∧ g = f ++ 10 :: row) ∨ ((f ≠ [] ∧ ¬ (last = true ∧ row = [])) ∧ g = f ++ 13 :: 10 :: row) := by
  unfold step
  simp only [List.mem_flatMap, List.mem_cons, List.mem_append]
  refine exists_congr fun f => and_congr_right fun _ => ?_
  refine or_congr_right (or_congr ?_ ?_)
  · by_cases h : f.getLast? = some 13 <;> simp [h]
  · by_cases h : f ≠ [] ∧ ¬ (last = true ∧ row = [])
    · rw [if_pos h]; simp [h]
    · rw [if_neg h]
      constructor
      · intro h'; simp at h'
      · intro h'; exact absurd h'.1 h

theorem last_app (f : List Nat) (c : Nat) (row : List Nat) (hr : Free row) : (f ++ c :: row).getLast? = some 13 ↔ c = 13 ∧ row = [] := by
  cases row with
  | nil => simp
  | cons a l =>
    have e : f ++ c :: a :: l = (f ++ [c]) ++ (a :: l) := by simp
    rw [e, List.getLast?_append]
    have h := free_last hr
    cases h2 : (a :: l).getLast? with
    | none => simp at h2
    | some x => rw [h2] at h; simp at h ⊢; exact h

theorem run_mem : ∀ (rest : List (List Nat)), (∀ r ∈ rest, Free r) → ∀ (fronts : List (List Nat)) (u : List Nat), u ∈ run fronts rest ↔
    ∃ f ∈ fronts, ∃ t, u = f ++ t ∧ Ch rest t ∧ (f.getLast? = some 13 → t.head? ≠ some 10) ∧ (f = [] → ¬ [13, 10] <+: t)
  | [], _, fronts, u => by
    simp only [run, Ch]
    constructor
    · intro h; exact ⟨u, h, [], by simp, rfl, by simp, by simp⟩
    · rintro ⟨f, hf, t, rfl, rfl, _⟩; simpa using hf
  | row :: rest, hF, fronts, u => by
    have hrow := hF row (by simp)
    have hrest : ∀ r ∈ rest, Free r := fun r hr => hF r (by simp [hr])
    cases hu : undot rest.isEmpty row with
    | none =>
      simp only [run, hu]
      constructor
      · intro h; simp at h
      · rintro ⟨f, _, t, _, ⟨row', e, _⟩, _⟩; rw [hu] at e; cases e
    | some row' =>
      have hrow' := undot_free hu hrow
      simp only [run, hu]
      rw [run_mem rest hrest]
      constructor
      · rintro ⟨g, hg, t, rfl, ht, h13, hg0⟩
        obtain ⟨f, hf, hc⟩ := mem_step.mp hg
        rcases hc with rfl | ⟨h2, rfl⟩ | ⟨⟨h2, h3⟩, rfl⟩
        · have hne : (row' ++ t).head? ≠ some 10 := by
            by_cases hn : row' = []
            · subst hn
              exact h13 ((last_app f 13 [] (by simp [Free])).mpr ⟨rfl, rfl⟩)
            · exact free_head hrow' hn
          refine ⟨f, hf, 13 :: (row' ++ t), by simp, ⟨row', hu, t, ht, .inl ⟨rfl, hne⟩⟩, by simp, ?_⟩
          intro _ hp
          rw [prefix_cons] at hp
          obtain ⟨z, hz⟩ := hp.2
          rw [← hz] at hne; simp at hne
        · refine ⟨f, hf, 10 :: (row' ++ t), by simp, ⟨row', hu, t, ht, .inr (.inl rfl)⟩, fun h => absurd h h2, ?_⟩
          intro _ hp
          rw [prefix_cons] at hp
          exact absurd hp.1 (by decide)
        · refine ⟨f, hf, 13 :: 10 :: (row' ++ t), by simp, ⟨row', hu, t, ht, .inr (.inr ⟨rfl, ?_⟩)⟩, by simp, fun h => absurd h h2⟩
          intro hn
          have h4 : row' = [] ∧ t = [] := by simpa using hn
          have h5 := (Ch_nil ht).mp h4.2
          exact h3 ⟨by rw [h5]; rfl, h4.1⟩
      · rintro ⟨f, hf, t', rfl, ⟨row'', e, t, ht, hc⟩, h13, hf0⟩
        rw [hu] at e; cases e
        rcases hc with ⟨rfl, hne⟩ | rfl | ⟨rfl, hne⟩
        · refine ⟨f ++ 13 :: row', mem_step.mpr ⟨f, hf, .inl rfl⟩, t, by simp, ht, fun h => ?_, by simp⟩
          rw [last_app f 13 row' hrow'] at h
          rw [h.2] at hne; exact hne
        · refine ⟨f ++ 10 :: row', mem_step.mpr ⟨f, hf, .inr (.inl ⟨fun h => h13 h (by simp), rfl⟩)⟩, t, by simp, ht, fun h => ?_, by simp⟩
          rw [last_app f 10 row' hrow'] at h
          exact absurd h.1 (by decide)
        · have hf1 : f ≠ [] := fun h => hf0 h ⟨row' ++ t, by simp⟩
          refine ⟨f ++ 13 :: 10 :: row', mem_step.mpr ⟨f, hf, .inr (.inr ⟨⟨hf1, ?_⟩, rfl⟩)⟩, t, by simp, ht, fun h => ?_, by simp⟩
          · rintro ⟨h1, h2⟩
            have h3 : rest = [] := by simpa using h1
            exact hne (by rw [h2, (Ch_nil ht).mpr h3]; rfl)
          · have e : f ++ 13 :: 10 :: row' = (f ++ [13]) ++ 10 :: row' := by simp
            rw [e, last_app _ 10 row' hrow'] at h
            exact absurd h.1 (by decide)

theorem mem_fronts0 {row0 f : List Nat} : f ∈ fronts0 row0 ↔ f = row0 ∨ ∃ r, row0 = 46 :: 46 :: r ∧ (f = 10 :: 46 :: r ∨ f = 13 :: 46 :: r) := by
  unfold fronts0
  by_cases h : row0.take 2 = [46, 46]
  · rw [if_pos h]
    obtain ⟨r, er⟩ := take2_is h
    subst er
    simp
  · rw [if_neg h]
    have : ∀ r, row0 ≠ 46 :: 46 :: r := by intro r e; subst e; simp at h
    simp [this]

/-- the whole word, undone, as the program reckons it -/
theorem whole_run (row0 : List Nat) (rest : List (List Nat)) (h0 : Free row0) (hr : ∀ r ∈ rest, Free r) (m : List Nat) :
    (∃ u, Whole row0 rest u ∧ u <:+: m) ↔ ∃ u ∈ run (fronts0 row0) rest, u <:+: m := by
  constructor
  · rintro ⟨u, ⟨t, ht, hc⟩, hu⟩
    rcases hc with rfl | ⟨r, rfl, hc⟩
    · by_cases h1 : row0 = [] ∧ [13, 10] <+: t
      · obtain ⟨rfl, h1⟩ := h1
        cases rest with
        | nil => simp only [Ch] at ht; subst ht; simp at h1
        | cons row rest =>
          obtain ⟨row', hd, t1, ht1, hc⟩ := ht
          rcases hc with ⟨rfl, hne⟩ | rfl | ⟨rfl, hne⟩
          · rw [prefix_cons] at h1
            obtain ⟨z, hz⟩ := h1.2
            rw [← hz] at hne; simp at hne
          · rw [prefix_cons] at h1; exact absurd h1.1 (by decide)
          · refine ⟨10 :: (row' ++ t1), ?_, ((List.suffix_cons 13 (10 :: (row' ++ t1))).isInfix).trans hu⟩
            rw [run_mem _ hr]
            refine ⟨[], mem_fronts0.mpr (.inl rfl), _, rfl, ⟨row', hd, t1, ht1, .inr (.inl rfl)⟩, by simp, ?_⟩
            intro _ hp; rw [prefix_cons] at hp; exact absurd hp.1 (by decide)
      · refine ⟨row0 ++ t, ?_, hu⟩
        rw [run_mem _ hr]
        exact ⟨row0, mem_fronts0.mpr (.inl rfl), t, rfl, ht, fun h => absurd h (free_last h0), fun h hp => h1 ⟨h, hp⟩⟩
    · have hfree : Free (46 :: r) := fun c hc => h0 c (by simp at hc ⊢; exact hc)
      rcases hc with rfl | rfl
      · refine ⟨_, ?_, hu⟩
        rw [run_mem _ hr]
        refine ⟨10 :: 46 :: r, mem_fronts0.mpr (.inr ⟨r, rfl, .inl rfl⟩), t, by simp, ht, fun h => ?_, by simp⟩
        exact absurd ((last_app [] 10 (46 :: r) hfree).mp h).1 (by decide)
      · refine ⟨_, ?_, hu⟩
        rw [run_mem _ hr]
        refine ⟨13 :: 46 :: r, mem_fronts0.mpr (.inr ⟨r, rfl, .inr rfl⟩), t, by simp, ht, fun h => ?_, by simp⟩
        exact absurd ((last_app [] 13 (46 :: r) hfree).mp h).2 (by simp)
  · rintro ⟨u, hu, hi⟩
    refine ⟨u, ?_, hi⟩
    rw [run_mem _ hr] at hu
    obtain ⟨f, hf, t, rfl, ht, _⟩ := hu
    rcases mem_fronts0.mp hf with rfl | ⟨r, rfl, rfl | rfl⟩
    · exact ⟨t, ht, .inl rfl⟩
    · exact ⟨t, ht, .inr ⟨r, rfl, .inl (by simp)⟩⟩
    · exact ⟨t, ht, .inr ⟨r, rfl, .inr (by simp)⟩⟩

theorem front1_infix (w m : List Nat) : (w <:+: q false m) ↔ (front1 w <:+: q false m) := by
  unfold front1
  split
  · rename_i h
    cases w with
    | nil => simp at h
    | cons a w =>
      simp at h; subst h
      constructor
      · rintro ⟨a, z, e⟩
        obtain ⟨p, hp⟩ := q_lf_prev m false a (w ++ z) (by rw [← e]; simp)
        exact ⟨p, z, by rw [← e, hp]; simp⟩
      · intro h; exact (List.suffix_cons 13 (10 :: w)).isInfix.trans h
  · exact Iff.rfl
theorem back1_infix (w m : List Nat) : (w <:+: q false m) ↔ (back1 w <:+: q false m) := by
  unfold back1
  split
  · rename_i h
    obtain ⟨w', rfl⟩ := List.getLast?_eq_some_iff.mp h
    constructor
    · rintro ⟨a, z, e⟩
      have h1 := q_cr_next m false (a ++ w') z (by rw [← e]; simp)
      cases z with
      | nil => simp at h1
      | cons c z => simp at h1; subst h1; exact ⟨a, z, by rw [← e]; simp⟩
    · intro h; exact (List.prefix_append (w' ++ [13]) [10]).isInfix.trans h
  · exact Iff.rfl

theorem front1_head (w : List Nat) : (front1 w).head? ≠ some 10 := by
  unfold front1; split
  · simp
  · assumption
theorem compl_head (w : List Nat) : (compl w).head? ≠ some 10 := by
  unfold compl back1
  split
  · cases e : front1 w with
    | nil => rename_i h; rw [e] at h; simp at h
    | cons a l => have := front1_head w; rw [e] at this; simpa using this
  · exact front1_head w
theorem compl_last (w : List Nat) : (compl w).getLast? ≠ some 13 := by
  unfold compl back1
  split
  · simp
  · assumption

theorem compl_nice {w m : List Nat} (h : compl w <:+: q false m) : Nice (compl w) := by
  obtain ⟨a, z, e⟩ := h
  refine ⟨fun pre post hp => ?_, fun pre post hp => ?_⟩
  · have h1 := q_cr_next m false (a ++ pre) (post ++ z) (by rw [← e, hp]; simp)
    cases post with
    | nil => exact absurd (by rw [hp]; simp) (compl_last w)
    | cons c l => simpa using h1
  · obtain ⟨p, h1⟩ := q_lf_prev m false (a ++ pre) (post ++ z) (by rw [← e, hp]; simp)
    cases hpre : pre.reverse with
    | nil =>
      have : pre = [] := by simpa using hpre
      subst this
      exact absurd (by rw [hp]; rfl) (compl_head w)
    | cons c l =>
      have e2 : pre = l.reverse ++ [c] := by rw [← List.reverse_reverse pre, hpre]; simp
      rw [e2, ← List.append_assoc] at h1
      have h3 := List.append_inj' h1 rfl
      have : c = 13 := by simpa using h3.2
      subst this
      exact ⟨l.reverse, e2⟩

/-- THE LAW OF ONE SENDING -/
theorem undone_told (w m : List Nat) : (w <:+: q false m) ↔ ∃ u ∈ undone w, u <:+: m := by
  rw [front1_infix, back1_infix]
  show (compl w <:+: q false m) ↔ _
  unfold undone
  cases hl : (sp (compl w)).any lone with
  | true =>
    simp only [if_true]
    constructor
    · intro h
      have := lone_free.mpr (sp_free _ _ (Nat.le_refl _) (compl_nice h))
      rw [hl] at this; cases this
    · rintro ⟨u, hu, _⟩; simp at hu
  | false =>
    have hf := lone_free.mp hl
    cases e : sp (compl w) with
    | nil => exact absurd e (sp_ne _)
    | cons row0 rest =>
      rw [e] at hf
      simp only [Bool.false_eq_true, if_false]
      rw [sp_join _ _ (Nat.le_refl _) row0 rest e]
      rw [whole_told row0 rest (hf row0 (by simp)) (fun r hr => hf r (by simp [hr])), whole_run row0 rest (hf row0 (by simp)) (fun r hr => hf r (by simp [hr]))]

end Mine

end
/-! Plain4 -/
section
namespace Mine

def Qn : Nat → List Nat → List Nat
  | 0, m => m
  | n + 1, m => Qn n (q true m)
theorem Qn_succ : ∀ (n : Nat) (m : List Nat), Qn (n + 1) m = q true (Qn n m)
  | 0, _ => rfl
  | n + 1, m => by show Qn (n + 1) (q true m) = _; rw [Qn_succ n]; rfl
def sent (n : Nat) (m : List Nat) : List Nat := 13 :: 10 :: Qn n m
theorem sent_succ (n : Nat) (m : List Nat) : sent (n + 1) m = q false (10 :: Qn n m) := by
  unfold sent; rw [Qn_succ, q_lf]

def words : Nat → List (List Nat) → List (List Nat)
  | 0, ws => ws
  | n + 1, ws => words n (ws.flatMap undone)
theorem words_succ : ∀ (n : Nat) (ws : List (List Nat)), words (n + 1) ws = (words n ws).flatMap undone
  | 0, _ => rfl
  | n + 1, ws => by show words (n + 1) (ws.flatMap undone) = _; rw [words_succ n]; rfl

def Good (w : List Nat) : Prop := 2 ≤ w.length ∧ w ≠ [13, 10]
def Bet (u : List Nat) : Prop := 2 ≤ u.length ∧ ¬ [13, 10] <+: u
theorem Bet.good {u : List Nat} (h : Bet u) : Good u := ⟨h.1, fun e => h.2 (by rw [e]; exact List.prefix_refl _)⟩

/-- what the undone word is made of -/
theorem undone_parts {w u : List Nat} (h : u ∈ undone w) : ∃ row0 rest, sp (compl w) = row0 :: rest ∧ (∀ r ∈ row0 :: rest, Free r) ∧
    ∃ f ∈ fronts0 row0, ∃ t, u = f ++ t ∧ Ch rest t ∧ (f.getLast? = some 13 → t.head? ≠ some 10) ∧ (f = [] → ¬ [13, 10] <+: t) := by
  unfold undone at h
  cases hl : (sp (compl w)).any lone with
  | true => rw [hl] at h; simp at h
  | false =>
    rw [hl] at h
    have hf := lone_free.mp hl
    cases e : sp (compl w) with
    | nil => exact absurd e (sp_ne _)
    | cons row0 rest =>
      rw [e] at hf h
      simp only [Bool.false_eq_true, if_false] at h
      exact ⟨row0, rest, rfl, hf, (run_mem rest (fun r hr => hf r (by simp [hr])) _ _).mp h⟩

theorem front_len {row0 f : List Nat} (h : f ∈ fronts0 row0) : f.length = row0.length := by
  rcases mem_fronts0.mp h with rfl | ⟨r, rfl, rfl | rfl⟩ <;> simp
theorem undot_len {last : Bool} {row row' : List Nat} (h : undot last row = some row') : row'.length ≤ row.length ∧ (row' = [] → row = []) := by
  unfold undot at h
  split at h
  · cases h
    rename_i h2
    refine ⟨by simp, fun e => ?_⟩
    obtain ⟨r, er⟩ := take2_is h2
    subst er
    simp at e
  · split at h
    · cases h
    · cases h; exact ⟨Nat.le_refl _, id⟩
theorem Ch_len : ∀ {rest : List (List Nat)} {t : List Nat}, Ch rest t → rest.length ≤ t.length ∧ t.length ≤ (E rest).length
  | [], t, h => by simp only [Ch] at h; subst h; simp [E]
  | row :: rest, u, h => by
    obtain ⟨row', hu, t, ht, h⟩ := h
    have h1 := Ch_len ht
    have h2 := (undot_len hu).1
    rcases h with ⟨rfl, _⟩ | rfl | ⟨rfl, _⟩ <;> simp [E] <;> omega

theorem compl_len (w : List Nat) : w.length ≤ (compl w).length ∧ (compl w).length ≤ w.length + 2 := by
  unfold compl back1 front1
  split <;> split <;> simp <;> omega

theorem undone_len {w u : List Nat} (h : u ∈ undone w) : u.length ≤ w.length + 2 := by
  obtain ⟨row0, rest, e, _, f, hf, t, rfl, ht, _⟩ := undone_parts h
  have h1 := sp_join _ _ (Nat.le_refl _) row0 rest e
  have h2 := congrArg List.length h1
  simp only [List.length_append] at h2 ⊢
  have h3 := (Ch_len ht).2
  have h4 := front_len hf
  have h5 := (compl_len w).2
  omega

theorem undone_bet {w u : List Nat} (hw : Good w) (h : u ∈ undone w) : Bet u := by
  obtain ⟨row0, rest, e, hfree, f, hf, t, rfl, ht, h13, h0⟩ := undone_parts h
  have h1 := sp_join _ _ (Nat.le_refl _) row0 rest e
  have hfl := front_len hf
  constructor
  · rw [List.length_append]
    have h2 := (Ch_len ht).1
    match rest, ht, h1, h2 with
    | [], ht, h1, _ =>
      have h3 := (compl_len w).1
      have h4 := hw.1
      rw [h1] at h3
      simp [E] at h3
      omega
    | [row], ht, h1, h2 =>
      obtain ⟨row', hu, t1, ht1, hc⟩ := ht
      by_cases hz : row0 = [] ∧ row' = []
      · obtain ⟨rfl, hz⟩ := hz
        have hr := (undot_len hu).2 hz
        subst hr
        exfalso
        have h3 : compl w = [13, 10] := by rw [h1]; rfl
        have h4 := hw.1
        unfold compl back1 at h3
        split at h3
        · have h5 : front1 w = [13] := by
            have : front1 w ++ [10] = [13] ++ [10] := h3
            exact List.append_cancel_right this
          unfold front1 at h5
          split at h5
          · simp at h5; rw [h5] at h4; simp at h4
          · rw [h5] at h4; simp at h4
        · unfold front1 at h3
          split at h3
          · simp at h3; rw [h3] at h4; simp at h4
          · exact hw.2 h3
      · rcases hc with ⟨rfl, _⟩ | rfl | ⟨rfl, _⟩
        all_goals
          simp only [List.length_cons, List.length_append]
          by_cases hr : row' = []
          · have : row0 ≠ [] := fun x => hz ⟨x, hr⟩
            have : 0 < row0.length := List.length_pos_iff.mpr this
            omega
          · have : 0 < row'.length := List.length_pos_iff.mpr hr
            omega
    | _ :: _ :: rest', _, _, h2 => simp only [List.length_cons] at h2; omega
  · rcases mem_fronts0.mp hf with rfl | ⟨r, rfl, rfl | rfl⟩
    · cases f with
      | nil => exact h0 rfl
      | cons a l =>
        intro hp
        rw [List.cons_append, prefix_cons] at hp
        exact (hfree (a :: l) (by simp) a (by simp)).1 hp.1.symm
    · intro hp; rw [List.cons_append, prefix_cons] at hp; exact absurd hp.1 (by decide)
    · intro hp
      rw [List.cons_append, prefix_cons, List.cons_append, prefix_cons] at hp
      exact absurd hp.2.1 (by decide)

theorem sp_mem : ∀ (n : Nat) (w : List Nat), w.length ≤ n → ∀ r ∈ sp w, ∀ c ∈ r, c ∈ w := by
  intro n
  induction n with
  | zero =>
    intro w hw r hr c hc
    have : w = [] := List.eq_nil_of_length_eq_zero (by omega)
    subst this; rw [sp_nil] at hr; simp at hr; subst hr; simp at hc
  | succ n ih =>
    intro w hw r hr c hc
    cases w with
    | nil => rw [sp_nil] at hr; simp at hr; subst hr; simp at hc
    | cons a w =>
      simp only [List.length_cons] at hw
      by_cases h : a = 13 ∧ w.head? = some 10
      · obtain ⟨rfl, h10⟩ := h
        cases w with
        | nil => simp at h10
        | cons d w =>
          simp at h10; subst h10
          rw [sp_end] at hr
          rcases List.mem_cons.mp hr with rfl | hr
          · simp at hc
          · simp only [List.length_cons] at hw
            have := ih w (by omega) r hr c hc
            simp [this]
      · obtain ⟨h', t, e1, e2⟩ := sp_cons a w h
        rw [e2] at hr
        rcases List.mem_cons.mp hr with rfl | hr
        · rcases List.mem_cons.mp hc with rfl | hc
          · simp
          · have := ih w (by omega) h' (by rw [e1]; simp) c hc
            simp [this]
        · have := ih w (by omega) r (by rw [e1]; simp [hr]) c hc
          simp [this]

theorem Ch_mem (P : Nat → Prop) (p13 : P 13) (p10 : P 10) : ∀ {rest : List (List Nat)} {t : List Nat}, Ch rest t → (∀ r ∈ rest, ∀ c ∈ r, P c) → ∀ c ∈ t, P c
  | [], t, h, _, c, hc => by simp only [Ch] at h; subst h; simp at hc
  | row :: rest, u, h, hP, c, hc => by
    obtain ⟨row', hu, t, ht, h⟩ := h
    have h1 := Ch_mem P p13 p10 ht fun r hr => hP r (by simp [hr])
    have h2 : ∀ c ∈ row', P c := by
      intro d hd
      refine hP row (by simp) d ?_
      unfold undot at hu
      split at hu
      · cases hu; exact List.mem_of_mem_drop hd
      · split at hu
        · cases hu
        · cases hu; exact hd
    have h3 : ∀ c ∈ row' ++ t, P c := fun d hd => (List.mem_append.mp hd).elim (h2 d) (h1 d)
    rcases h with ⟨rfl, _⟩ | rfl | ⟨rfl, _⟩
    · rcases List.mem_cons.mp hc with rfl | hc
      · exact p13
      · exact h3 c hc
    · rcases List.mem_cons.mp hc with rfl | hc
      · exact p10
      · exact h3 c hc
    · rcases List.mem_cons.mp hc with rfl | hc
      · exact p13
      · rcases List.mem_cons.mp hc with rfl | hc
        · exact p10
        · exact h3 c hc

theorem undone_mem (P : Nat → Prop) (p13 : P 13) (p10 : P 10) {w u : List Nat} (hw : ∀ c ∈ w, P c) (h : u ∈ undone w) : ∀ c ∈ u, P c := by
  obtain ⟨row0, rest, e, _, f, hf, t, rfl, ht, _⟩ := undone_parts h
  have hcw : ∀ c ∈ compl w, P c := by
    intro c hc
    unfold compl back1 front1 at hc
    split at hc <;> split at hc <;> (try simp at hc)
    · rcases hc with rfl | hc | rfl
      · exact p13
      · exact hw c hc
      · exact p10
    · rcases hc with rfl | hc
      · exact p13
      · exact hw c hc
    · rcases hc with hc | rfl
      · exact hw c hc
      · exact p10
    · exact hw c hc
  have hrows : ∀ r ∈ row0 :: rest, ∀ c ∈ r, P c := fun r hr c hc => hcw c (sp_mem _ _ (Nat.le_refl _) r (by rw [e]; exact hr) c hc)
  have h0 := hrows row0 (by simp)
  intro c hc
  rcases List.mem_append.mp hc with hc | hc
  · rcases mem_fronts0.mp hf with rfl | ⟨r, rfl, rfl | rfl⟩
    · exact h0 c hc
    · rcases List.mem_cons.mp hc with rfl | hc
      · exact p10
      · exact h0 c (List.mem_cons_of_mem _ hc)
    · rcases List.mem_cons.mp hc with rfl | hc
      · exact p13
      · exact h0 c (List.mem_cons_of_mem _ hc)
  · exact Ch_mem P p13 p10 ht (fun r hr => hrows r (by simp [hr])) c hc

theorem words_all (P : List Nat → Prop) (hP : ∀ w u, P w → u ∈ undone w → P u) : ∀ (n : Nat) (ws : List (List Nat)), (∀ w ∈ ws, P w) → ∀ u ∈ words n ws, P u
  | 0, _, h => h
  | n + 1, ws, h => words_all P hP n _ fun u hu => by
    obtain ⟨w, hw, hu⟩ := List.mem_flatMap.mp hu
    exact hP w u (h w hw) hu

theorem bet_infix {u X : List Nat} (h : Bet u) : (u <:+: 10 :: X) ↔ (u <:+: 13 :: 10 :: X) := by
  constructor
  · exact fun h => h.trans (List.suffix_cons _ _).isInfix
  · intro hi
    rcases List.infix_cons_iff.mp hi with hp | hi
    · exfalso
      match u, h, hp with
      | [], h, _ => have := h.1; simp at this
      | [a], h, _ => have := h.1; simp at this
      | a :: b :: l, h, hp =>
        rw [prefix_cons, prefix_cons] at hp
        exact h.2 (by rw [hp.1, hp.2.1]; exact ⟨l, rfl⟩)
    · exact hi

/-- THE LAW OF n SENDINGS -/
theorem words_told : ∀ (n : Nat) (ws : List (List Nat)) (m : List Nat), (∀ w ∈ ws, Good w) →
    ((∃ w ∈ ws, w <:+: sent (n + 1) m) ↔ ∃ u ∈ words (n + 1) ws, u <:+: 10 :: m) := by
  have one : ∀ (n : Nat) (ws : List (List Nat)) (m : List Nat), (∃ w ∈ ws, w <:+: sent (n + 1) m) ↔ ∃ u ∈ ws.flatMap undone, u <:+: 10 :: Qn n m := by
    intro n ws m
    rw [sent_succ]
    constructor
    · rintro ⟨w, hw, h⟩
      obtain ⟨u, hu, h⟩ := (undone_told w _).mp h
      exact ⟨u, List.mem_flatMap.mpr ⟨w, hw, hu⟩, h⟩
    · rintro ⟨u, hu, h⟩
      obtain ⟨w, hw, hu⟩ := List.mem_flatMap.mp hu
      exact ⟨w, hw, (undone_told w _).mpr ⟨u, hu, h⟩⟩
  intro n
  induction n with
  | zero => intro ws m _; exact one 0 ws m
  | succ n ih =>
    intro ws m hg
    have hb : ∀ u ∈ ws.flatMap undone, Bet u := by
      intro u hu
      obtain ⟨w, hw, hu⟩ := List.mem_flatMap.mp hu
      exact undone_bet (hg w hw) hu
    rw [one]
    show _ ↔ ∃ u ∈ words (n + 1) (ws.flatMap undone), u <:+: 10 :: m
    rw [← ih (ws.flatMap undone) m fun u hu => (hb u hu).good]
    refine exists_congr fun u => and_congr_right fun hu => ?_
    exact bet_infix (hb u hu)

theorem words_bet {n : Nat} {w : List Nat} (hw : Good w) : ∀ u ∈ words (n + 1) [w], Bet u := by
  intro u hu
  rw [words_succ] at hu
  obtain ⟨v, hv, hu⟩ := List.mem_flatMap.mp hu
  exact undone_bet (words_all Good (fun w u hw hu => (undone_bet hw hu).good) n [w] (by simpa using hw) v hv) hu

/-! ## least words -/
def inb (a : List Nat) : List Nat → Bool
  | [] => a.isEmpty
  | c :: b => a.isPrefixOf (c :: b) || inb a b
theorem inb_iff (a : List Nat) : ∀ b, inb a b = true ↔ a <:+: b
  | [] => by simp [inb]
  | c :: b => by rw [inb, Bool.or_eq_true, List.isPrefixOf_iff_prefix, inb_iff a b, List.infix_cons_iff]

def addLeast (L : List (List Nat)) (one : List Nat) : List (List Nat) := if L.filter (fun less => inb less one) = [] then L ++ [one] else L
def leastOf (ws : List (List Nat)) : List (List Nat) := ws.foldl addLeast []

theorem foldl_spec (ws : List (List Nat)) : ∀ (L : List (List Nat)), (∀ l ∈ L, ∀ w ∈ ws, l.length ≤ w.length) → ws.Pairwise (fun a b => a.length ≤ b.length) →
    L.Pairwise (fun a b => ¬ a <:+: b ∧ a.length ≤ b.length) →
    let R := ws.foldl addLeast L
    (∀ l ∈ L, l ∈ R) ∧ (∀ l ∈ R, l ∈ L ∨ l ∈ ws) ∧ (∀ w ∈ ws, ∃ l ∈ R, l <:+: w) ∧ R.Pairwise (fun a b => ¬ a <:+: b ∧ a.length ≤ b.length) := by
  induction ws with
  | nil => intro L _ _ hp; exact ⟨fun _ h => h, fun _ h => .inl h, by simp, hp⟩
  | cons w ws ih =>
    intro L hL hs hp
    rw [List.pairwise_cons] at hs
    have hstep : ∀ L' : List (List Nat), L' = addLeast L w → (∀ l ∈ L, l ∈ L') ∧ (∀ l ∈ L', l ∈ L ∨ l = w) ∧ (∃ l ∈ L', l <:+: w) ∧ L'.Pairwise (fun a b => ¬ a <:+: b ∧ a.length ≤ b.length) := by
      intro L' e
      unfold addLeast at e
      split at e
      · rename_i h
        subst e
        refine ⟨fun l h => by simp [h], fun l h => by simpa using h, ⟨w, by simp, List.infix_refl _⟩, ?_⟩
        rw [List.pairwise_append]
        refine ⟨hp, by simp, fun a ha b hb => ?_⟩
        rw [List.mem_singleton.mp hb]
        refine ⟨fun hi => ?_, hL a ha w (by simp)⟩
        have := List.filter_eq_nil_iff.mp h a ha
        exact this ((inb_iff a w).mpr hi)
      · rename_i h
        rw [e]
        refine ⟨fun l h => h, fun l h => .inl h, ?_, hp⟩
        have : ∃ l ∈ L, inb l w = true := by
          refine Classical.byContradiction fun hn => h ?_
          rw [List.filter_eq_nil_iff]
          intro a ha hb; exact hn ⟨a, ha, hb⟩
        obtain ⟨l, hl, hb⟩ := this
        exact ⟨l, hl, (inb_iff l w).mp hb⟩
    obtain ⟨s1, s2, s3, s4⟩ := hstep _ rfl
    have hL' : ∀ l ∈ addLeast L w, ∀ v ∈ ws, l.length ≤ v.length := by
      intro l hl v hv
      rcases s2 l hl with h | rfl
      · exact hL l h v (by simp [hv])
      · exact hs.1 v hv
    obtain ⟨r1, r2, r3, r4⟩ := ih (addLeast L w) hL' hs.2 s4
    refine ⟨fun l hl => r1 l (s1 l hl), fun l hl => ?_, fun v hv => ?_, r4⟩
    · rcases r2 l hl with h | h
      · rcases s2 l h with h | rfl
        · exact .inl h
        · exact .inr (by simp)
      · exact .inr (by simp [h])
    · rcases List.mem_cons.mp hv with rfl | hv
      · obtain ⟨l, hl, hi⟩ := s3
        exact ⟨l, r1 l hl, hi⟩
      · exact r3 v hv

theorem leastOf_spec {ws : List (List Nat)} (hs : ws.Pairwise (fun a b => a.length ≤ b.length)) :
    (∀ l ∈ leastOf ws, l ∈ ws) ∧ (∀ w ∈ ws, ∃ l ∈ leastOf ws, l <:+: w) ∧ (∀ a ∈ leastOf ws, ∀ b ∈ leastOf ws, a <:+: b → a = b) := by
  obtain ⟨_, h2, h3, h4⟩ := foldl_spec ws [] (by simp) hs .nil
  refine ⟨fun l hl => (h2 l hl).elim (fun h => by simp at h) id, h3, fun a ha b hb hi => ?_⟩
  obtain ⟨i, hi1, rfl⟩ := List.getElem_of_mem ha
  obtain ⟨j, hj1, rfl⟩ := List.getElem_of_mem hb
  rw [List.pairwise_iff_getElem] at h4
  rcases Nat.lt_trichotomy i j with h | h | h
  · exact absurd hi (h4 i j hi1 hj1 h).1
  · subst h; rfl
  · have h5 := (h4 j i hj1 hi1 h).2
    exact hi.eq_of_length (Nat.le_antisymm hi.length_le h5)

theorem leastOf_told {n : Nat} {w : List Nat} {sl : List (List Nat)} (hw : Good w) (hp : sl.Perm (words (n + 1) [w])) (hs : sl.Pairwise (fun a b => a.length ≤ b.length)) (m : List Nat) :
    (w <:+: sent (n + 1) m) ↔ ∃ l ∈ leastOf sl, l <:+: 10 :: m := by
  have h1 := words_told n [w] m (by simpa using hw)
  simp only [List.mem_singleton, exists_eq_left] at h1
  rw [h1]
  obtain ⟨h2, h3, _⟩ := leastOf_spec hs
  constructor
  · rintro ⟨u, hu, hi⟩
    obtain ⟨l, hl, hi2⟩ := h3 u (hp.mem_iff.mpr hu)
    exact ⟨l, hl, hi2.trans hi⟩
  · rintro ⟨l, hl, hi⟩
    exact ⟨l, hp.mem_iff.mp (h2 l hl), hi⟩

/-- the mail that holds a piece alone -/
def loneOf (piece : List Nat) : List Nat := if piece.take 1 = [10] then piece.drop 1 else 122 :: piece

theorem least_min {n : Nat} {w : List Nat} {sl : List (List Nat)} (hw : Good w) (hz : ∀ c ∈ w, c ≠ 122) (hp : sl.Perm (words (n + 1) [w])) (hs : sl.Pairwise (fun a b => a.length ≤ b.length))
    {one : List Nat} (h1 : one ∈ leastOf sl) {piece : List Nat} (hpc : piece = one ∨ piece = one.drop 1 ∨ piece = one.dropLast) : (w <:+: sent (n + 1) (loneOf piece)) ↔ piece = one := by
  rw [leastOf_told hw hp hs]
  obtain ⟨h2, h3, h4⟩ := leastOf_spec hs
  have bet : ∀ l ∈ leastOf sl, Bet l := fun l hl => words_bet hw l (hp.mem_iff.mp (h2 l hl))
  have noz : ∀ l ∈ leastOf sl, ∀ c ∈ l, c ≠ 122 := fun l hl =>
    words_all (fun w => ∀ c ∈ w, c ≠ 122) (fun w u hw hu => undone_mem (fun c => c ≠ 122) (by decide) (by decide) hw hu) (n + 1) [w] (by simpa using hz) l (hp.mem_iff.mp (h2 l hl))
  constructor
  · rintro ⟨l, hl, hi⟩
    have hlp : l <:+: piece := by
      unfold loneOf at hi
      split at hi
      · rename_i h
        match piece, h with
        | 10 :: r, _ => exact hi
      · rcases List.infix_cons_iff.mp hi with hi | hi
        · exfalso
          have hb := bet l hl
          match l, hb, hi, noz l hl with
          | [], hb, _, _ => have := hb.1; simp at this
          | [a], hb, _, _ => have := hb.1; simp at this
          | a :: b :: r, _, hi, nz =>
            rw [prefix_cons, prefix_cons] at hi
            exact nz b (by simp) hi.2.1
        · rcases List.infix_cons_iff.mp hi with hi | hi
          · exfalso
            have hb := bet l hl
            match l, hb, hi, noz l hl with
            | [], hb, _, _ => have := hb.1; simp at this
            | a :: r, _, hi, nz =>
              rw [prefix_cons] at hi
              exact nz a (by simp) hi.1
          · exact hi
    have hpo : piece <:+: one := by
      rcases hpc with rfl | rfl | rfl
      · exact List.infix_refl _
      · exact (List.drop_suffix 1 one).isInfix
      · exact (List.dropLast_prefix one).isInfix
    have e := h4 l hl one h1 (hlp.trans hpo)
    subst e
    exact hpo.eq_of_length (Nat.le_antisymm hpo.length_le hlp.length_le)
  · rintro rfl
    refine ⟨piece, h1, ?_⟩
    unfold loneOf
    split
    · rename_i h
      match piece, h with
      | 10 :: r, _ => exact List.infix_refl _
    · exact ((List.suffix_cons 122 piece).trans (List.suffix_cons 10 _)).isInfix

end Mine

end
/-! Plain5 -/
section
namespace Mine

/-! ## the rows of a mail -/
def rws : List Nat → List (List Nat)
  | [] => [[]]
  | c :: r =>
    if c = 13 then [] :: (match r with
      | [] => rws []
      | d :: r' => if d = 10 then rws r' else rws (d :: r'))
    else if c = 10 then [] :: rws r
    else match rws r with
      | h :: t => (c :: h) :: t
      | [] => [[c]]
termination_by l => l.length

theorem rws_nil : rws [] = [[]] := by simp [rws]
theorem rws_crlf (r : List Nat) : rws (13 :: 10 :: r) = [] :: rws r := by rw [rws.eq_def]; simp
theorem rws_lf (r : List Nat) : rws (10 :: r) = [] :: rws r := by rw [rws.eq_def]; simp
theorem rws_cr (r : List Nat) (h : r.head? ≠ some 10) : rws (13 :: r) = [] :: rws r := by
  rw [rws.eq_def]
  cases r with
  | nil => simp
  | cons d r' =>
    have : d ≠ 10 := by simpa using h
    simp [this]
theorem rws_ne : ∀ m, rws m ≠ [] := by
  refine q_ind ?_ ?_ ?_ ?_ ?_
  · simp [rws_nil]
  · intro r _ _; simp [rws_crlf]
  · intro r _; simp [rws_lf]
  · intro r h _; simp [rws_cr r h]
  · intro c r h1 h2 _
    rw [rws.eq_def]; simp only []
    rw [if_neg h1, if_neg h2]
    split <;> simp
theorem rws_ord (c : Nat) (r : List Nat) (h1 : c ≠ 13) (h2 : c ≠ 10) : ∃ h t, rws r = h :: t ∧ rws (c :: r) = (c :: h) :: t := by
  cases e : rws r with
  | nil => exact absurd e (rws_ne r)
  | cons a l => exact ⟨a, l, rfl, by rw [rws.eq_def]; simp only []; rw [if_neg h1, if_neg h2, e]⟩

def dot1 (r : List Nat) : List Nat := if r.take 1 = [46] then 46 :: r else r
def dotB (b : Bool) (r : List Nat) : List Nat := if b = true then dot1 r else r

theorem q_rows : ∀ (m : List Nat) (b : Bool), ∃ h t, rws m = h :: t ∧ rws (q b m) = dotB b h :: t.map dot1 ∧ q b m = dotB b h ++ t.flatMap fun r => 13 :: 10 :: dot1 r := by
  have aux : ∀ (m r : List Nat) (b : Bool), rws m = [] :: rws r → q b m = 13 :: 10 :: q true r →
      (∃ h t, rws r = h :: t ∧ rws (q true r) = dotB true h :: t.map dot1 ∧ q true r = dotB true h ++ t.flatMap fun r => 13 :: 10 :: dot1 r) →
      ∃ h t, rws m = h :: t ∧ rws (q b m) = dotB b h :: t.map dot1 ∧ q b m = dotB b h ++ t.flatMap fun r => 13 :: 10 :: dot1 r := by
    rintro m r b e1 e2 ⟨h, t, i1, i2, i3⟩
    have hb : dotB b [] = [] := by unfold dotB dot1; split <;> simp
    refine ⟨[], h :: t, by rw [e1, i1], ?_, ?_⟩
    · rw [e2, rws_crlf, i2, hb]; rfl
    · rw [e2, i3, hb]; rfl
  refine q_ind ?_ ?_ ?_ ?_ ?_
  · intro b
    refine ⟨[], [], rws_nil, ?_, ?_⟩
    · rw [q_nil, rws_nil]; unfold dotB dot1; split <;> simp
    · rw [q_nil]; unfold dotB dot1; split <;> simp
  · intro r ih _ b; exact aux _ r b (rws_crlf r) (q_crlf b r) (ih true)
  · intro r ih b; exact aux _ r b (rws_lf r) (q_lf b r) (ih true)
  · intro r hr ih b; exact aux _ r b (rws_cr r hr) (q_cr b r hr) (ih true)
  · intro c r h1 h2 ih b
    obtain ⟨h, t, i1, i2, i3⟩ := ih false
    obtain ⟨h', t', e1, e2⟩ := rws_ord c r h1 h2
    rw [i1] at e1
    cases e1
    have hd : dotB false h = h := rfl
    rw [hd] at i2 i3
    by_cases h3 : b = true ∧ c = 46
    · obtain ⟨rfl, rfl⟩ := h3
      have hd2 : dotB true (46 :: h) = 46 :: 46 :: h := by simp [dotB, dot1]
      refine ⟨46 :: h, t, e2, ?_, ?_⟩
      · rw [q_dot, hd2]
        obtain ⟨x1, y1, f1, f2⟩ := rws_ord 46 (q false r) (by decide) (by decide)
        obtain ⟨x2, y2, f3, f4⟩ := rws_ord 46 (46 :: q false r) (by decide) (by decide)
        rw [f4]; rw [f2] at f3; cases f3; rw [i2] at f1; cases f1; rfl
      · rw [q_dot, hd2, i3]; rfl
    · have e3 := q_ord b c r h1 h2 (fun hb hc => h3 ⟨hb, hc⟩)
      have hd2 : dotB b (c :: h) = c :: h := by
        unfold dotB dot1
        by_cases hb : b = true
        · have hc : c ≠ 46 := fun hc => h3 ⟨hb, hc⟩
          simp [hc]
        · simp [hb]
      refine ⟨c :: h, t, e2, ?_, ?_⟩
      · rw [e3, hd2]
        obtain ⟨x1, y1, f1, f2⟩ := rws_ord c (q false r) h1 h2
        rw [f2]; rw [i2] at f1; cases f1; rfl
      · rw [e3, hd2, i3]; rfl

def dots (n : Nat) (r : List Nat) : List Nat := if r.take 1 = [46] then List.replicate n 46 else []
def told (n : Nat) (m : List Nat) : List Nat := (rws m).flatMap fun r => 13 :: 10 :: (dots n r ++ r)

theorem dots1 (r : List Nat) : dots 1 r ++ r = dot1 r := by
  unfold dots dot1; split <;> simp
theorem dots_succ (n : Nat) (r : List Nat) : dots n (dot1 r) ++ dot1 r = dots (n + 1) r ++ r := by
  unfold dots dot1
  by_cases h : r.take 1 = [46]
  · simp only [h, if_true]
    obtain ⟨r', er⟩ := take1_is h
    subst er
    simp [List.replicate_succ']
  · simp [h]
/-- sending dots the rows -/
theorem told_sent : ∀ (n : Nat) (m : List Nat), sent (n + 1) m = told (n + 1) m
  | 0, m => by
    obtain ⟨h, t, e1, _, e3⟩ := q_rows m true
    show 13 :: 10 :: q true m = _
    unfold told
    rw [e3, e1]
    simp only [Nat.zero_add, List.flatMap_cons, dots1, dotB, if_true, List.cons_append]
  | n + 1, m => by
    show sent (n + 1) (q true m) = _
    rw [told_sent n]
    obtain ⟨h, t, e1, e2, _⟩ := q_rows m true
    have e4 : rws (q true m) = (rws m).map dot1 := by rw [e1, e2]; rfl
    unfold told
    rw [e4, List.flatMap_map]
    congr 1
    funext r
    rw [dots_succ]

/-! ## the two patterns -/
def norm : List Nat → List Nat
  | [] => []
  | c :: r =>
    if c = 13 then 13 :: 10 :: (match r with
      | [] => norm []
      | d :: r' => if d = 10 then norm r' else norm (d :: r'))
    else if c = 10 then 13 :: 10 :: norm r
    else c :: norm r
termination_by l => l.length
theorem norm_nil : norm [] = [] := by simp [norm]
theorem norm_crlf (r : List Nat) : norm (13 :: 10 :: r) = 13 :: 10 :: norm r := by rw [norm.eq_def]; simp
theorem norm_lf (r : List Nat) : norm (10 :: r) = 13 :: 10 :: norm r := by rw [norm.eq_def]; simp
theorem norm_cr (r : List Nat) (h : r.head? ≠ some 10) : norm (13 :: r) = 13 :: 10 :: norm r := by
  rw [norm.eq_def]
  cases r with
  | nil => simp
  | cons d r' =>
    have : d ≠ 10 := by simpa using h
    simp [this]
theorem norm_ord (c : Nat) (r : List Nat) (h1 : c ≠ 13) (h2 : c ≠ 10) : norm (c :: r) = c :: norm r := by
  rw [norm.eq_def]; simp only []; rw [if_neg h1, if_neg h2]

def dotm : Bool → List Nat → List Nat
  | _, [] => []
  | b, c :: r => if b = true ∧ c = 46 then 46 :: 46 :: dotm false r else c :: dotm (c == 10) r

theorem q_eq : ∀ (m : List Nat) (b : Bool), q b m = dotm b (norm m) := by
  refine q_ind ?_ ?_ ?_ ?_ ?_
  · intro b; rw [q_nil, norm_nil]; rfl
  · intro r ih _ b; rw [q_crlf, norm_crlf, ih]; simp [dotm]
  · intro r ih b; rw [q_lf, norm_lf, ih]; simp [dotm]
  · intro r h ih b; rw [q_cr b r h, norm_cr r h, ih]; simp [dotm]
  · intro c r h1 h2 ih b
    rw [norm_ord c r h1 h2]
    by_cases h3 : b = true ∧ c = 46
    · obtain ⟨rfl, rfl⟩ := h3; rw [q_dot, ih]; simp [dotm]
    · rw [q_ord b c r h1 h2 (fun hb hc => h3 ⟨hb, hc⟩), ih]
      have : (c == 10) = false := by simpa using h2
      rw [dotm, if_neg h3, this]

theorem q_len : ∀ (m : List Nat) (b : Bool), (q b m).length ≤ 2 * m.length := by
  refine q_ind ?_ ?_ ?_ ?_ ?_
  · intro b; simp [q_nil]
  · intro r ih _ b; rw [q_crlf]; have := ih true; simp only [List.length_cons]; omega
  · intro r ih b; rw [q_lf]; have := ih true; simp only [List.length_cons]; omega
  · intro r h ih b; rw [q_cr b r h]; have := ih true; simp only [List.length_cons]; omega
  · intro c r h1 h2 ih b
    have := ih false
    by_cases h3 : b = true ∧ c = 46
    · obtain ⟨rfl, rfl⟩ := h3; rw [q_dot]; simp only [List.length_cons]; omega
    · rw [q_ord b c r h1 h2 (fun hb hc => h3 ⟨hb, hc⟩)]; simp only [List.length_cons]; omega
theorem q_mem (P : Nat → Prop) (p13 : P 13) (p10 : P 10) (p46 : P 46) : ∀ (m : List Nat) (b : Bool), (∀ c ∈ m, P c) → ∀ c ∈ q b m, P c := by
  have aux : ∀ X : List Nat, (∀ c ∈ X, P c) → ∀ c ∈ 13 :: 10 :: X, P c := by
    intro X h c hc
    rcases List.mem_cons.mp hc with rfl | hc
    · exact p13
    · rcases List.mem_cons.mp hc with rfl | hc
      · exact p10
      · exact h c hc
  refine q_ind ?_ ?_ ?_ ?_ ?_
  · intro b _ c hc; rw [q_nil] at hc; simp at hc
  · intro r ih _ b h; rw [q_crlf]; exact aux _ (ih true fun c hc => h c (by simp [hc]))
  · intro r ih b h; rw [q_lf]; exact aux _ (ih true fun c hc => h c (by simp [hc]))
  · intro r hr ih b h; rw [q_cr b r hr]; exact aux _ (ih true fun c hc => h c (by simp [hc]))
  · intro c r h1 h2 ih b h d hd
    have ih' := ih false fun c hc => h c (by simp [hc])
    by_cases h3 : b = true ∧ c = 46
    · obtain ⟨rfl, rfl⟩ := h3; rw [q_dot] at hd
      rcases List.mem_cons.mp hd with rfl | hd
      · exact p46
      · rcases List.mem_cons.mp hd with rfl | hd
        · exact p46
        · exact ih' d hd
    · rw [q_ord b c r h1 h2 (fun hb hc => h3 ⟨hb, hc⟩)] at hd
      rcases List.mem_cons.mp hd with rfl | hd
      · exact h d (by simp)
      · exact ih' d hd
theorem Qn_mem (P : Nat → Prop) (p13 : P 13) (p10 : P 10) (p46 : P 46) : ∀ (n : Nat) (m : List Nat), (∀ c ∈ m, P c) → ∀ c ∈ Qn n m, P c
  | 0, _, h => h
  | n + 1, m, h => Qn_mem P p13 p10 p46 n (q true m) (q_mem P p13 p10 p46 m true h)
theorem sent_mem (P : Nat → Prop) (p13 : P 13) (p10 : P 10) (p46 : P 46) (n : Nat) (m : List Nat) (h : ∀ c ∈ m, P c) : ∀ c ∈ sent n m, P c := by
  intro c hc
  unfold sent at hc
  rcases List.mem_cons.mp hc with rfl | hc
  · exact p13
  · rcases List.mem_cons.mp hc with rfl | hc
    · exact p10
    · exact Qn_mem P p13 p10 p46 n m h c hc
theorem Qn_len : ∀ (n : Nat) (m : List Nat), (Qn n m).length ≤ 2 ^ n * m.length
  | 0, m => by simp [Qn]
  | n + 1, m => by
    have h1 := Qn_len n (q true m)
    have h2 := q_len m true
    show (Qn n (q true m)).length ≤ _
    calc _ ≤ 2 ^ n * (q true m).length := h1
      _ ≤ 2 ^ n * (2 * m.length) := Nat.mul_le_mul_left _ h2
      _ = 2 ^ (n + 1) * m.length := by rw [Nat.pow_succ, Nat.mul_assoc]

/-! ## great and small letters -/
def up (c : Nat) : Nat := if 97 ≤ c ∧ c ≤ 122 then c - 32 else c
def low (c : Nat) : Nat := if 65 ≤ c ∧ c ≤ 90 then c + 32 else c
def Al (c : Nat) : Prop := c ∈ [46, 13, 10, 97, 66, 42, 11, 122]
theorem low_up {c : Nat} (h : Al c) : low (up c) = low c := by
  unfold Al at h; simp at h
  rcases h with rfl | rfl | rfl | rfl | rfl | rfl | rfl | rfl <;> decide
theorem low_inj {c d : Nat} (hc : Al c) (hd : Al d) (h : low c = low d) : c = d := by
  unfold Al at hc hd; simp at hc hd
  rcases hc with rfl | rfl | rfl | rfl | rfl | rfl | rfl | rfl <;> rcases hd with rfl | rfl | rfl | rfl | rfl | rfl | rfl | rfl <;> first | rfl | exact absurd h (by decide)
theorem map_low_inj : ∀ {a b : List Nat}, (∀ c ∈ a, Al c) → (∀ c ∈ b, Al c) → a.map low = b.map low → a = b
  | [], [], _, _, _ => rfl
  | [], _ :: _, _, _, h => by simp at h
  | _ :: _, [], _, _, h => by simp at h
  | x :: a, y :: b, ha, hb, h => by
    simp only [List.map_cons, List.cons.injEq] at h
    rw [low_inj (ha x (by simp)) (hb y (by simp)) h.1, map_low_inj (fun c hc => ha c (by simp [hc])) (fun c hc => hb c (by simp [hc])) h.2]
theorem inb_low {a b : List Nat} (ha : ∀ c ∈ a, Al c) (hb : ∀ c ∈ b, Al c) : inb (a.map low) (b.map low) = inb a b := by
  rw [Bool.eq_iff_iff, inb_iff, inb_iff]
  constructor
  · rintro ⟨x, z, e⟩
    -- the part of b that stands there
    have hlen : x.length + a.length + z.length = b.length := by
      have := congrArg List.length e; simp at this; omega
    have e1 : ((b.drop x.length).take a.length).map low = a.map low := by
      rw [List.map_take, List.map_drop, ← e]
      simp
    have e2 := map_low_inj (a := (b.drop x.length).take a.length) (b := a) (fun c hc => hb c (List.mem_of_mem_drop (List.mem_of_mem_take hc))) ha e1
    rw [← e2]
    exact (List.take_prefix _ _).isInfix.trans (List.drop_suffix _ _).isInfix
  · rintro ⟨x, z, e⟩
    exact ⟨x.map low, z.map low, by rw [← e]; simp⟩

def appl (agents : List (List Nat)) (ua : List Nat) : Bool :=
  agents.any fun a => decide (a ≠ [42]) && inb (a.map low) ((ua.takeWhile (fun c => decide (c ≠ 47))).map low)

theorem takeWhile_slash {T X : List Nat} (h : ∀ c ∈ T, c ≠ 47) : (T ++ 47 :: X).takeWhile (fun c => decide (c ≠ 47)) = T := by
  induction T with
  | nil => simp
  | cons a T ih =>
    have := h a (by simp)
    simp [this]
    simpa using ih fun c hc => h c (by simp [hc])
theorem takeWhile_none {T : List Nat} (h : ∀ c ∈ T, c ≠ 47) : T.takeWhile (fun c => decide (c ≠ 47)) = T := by
  induction T with
  | nil => simp
  | cons a T ih =>
    have := h a (by simp)
    simp [this]
    simpa using ih fun c hc => h c (by simp [hc])
theorem Al_slash {c : Nat} (h : Al c) : c ≠ 47 := by rintro rfl; simp [Al] at h
theorem map_up_star {w : List Nat} (h : 2 ≤ w.length) : w.map up ≠ [42] := by
  intro e; have := congrArg List.length e; simp at this; omega

theorem behind_told {w T X : List Nat} (hw : 2 ≤ w.length) (aw : ∀ c ∈ w, Al c) (aT : ∀ c ∈ T, Al c) : appl [w.map up, [42]] (T ++ 47 :: X) = inb w T := by
  unfold appl
  rw [takeWhile_slash fun c hc => Al_slash (aT c hc)]
  have e : (w.map up).map low = w.map low := by
    rw [List.map_map]; exact List.map_congr_left fun c hc => low_up (aw c hc)
  simp [map_up_star hw, e, inb_low aw aT]

theorem ahead_told {L : List (List Nat)} {M : List Nat} (hL : ∀ l ∈ L, 2 ≤ l.length) (aL : ∀ l ∈ L, ∀ c ∈ l, Al c) (aM : ∀ c ∈ M, Al c) : appl L M = L.any fun l => inb l M := by
  unfold appl
  rw [takeWhile_none fun c hc => Al_slash (aM c hc)]
  rw [Bool.eq_iff_iff, List.any_eq_true, List.any_eq_true]
  refine exists_congr fun l => and_congr_right fun hl => ?_
  have : l ≠ [42] := by intro e; have := hL l hl; rw [e] at this; simp at this
  simp [this, inb_low (aL l hl) aM]

section
variable {n : Nat} {w : List Nat} {sl : List (List Nat)} (hw : Good w) (aw : ∀ c ∈ w, Al c) (hz : ∀ c ∈ w, c ≠ 122) (hp : sl.Perm (words (n + 1) [w])) (hs : sl.Pairwise (fun a b => a.length ≤ b.length))
include hw aw hp hs

theorem least_al : ∀ l ∈ leastOf sl, 2 ≤ l.length ∧ ∀ c ∈ l, Al c := by
  obtain ⟨h2, _, _⟩ := leastOf_spec hs
  intro l hl
  have hm := hp.mem_iff.mp (h2 l hl)
  exact ⟨(words_bet hw l hm).1, words_all (fun w => ∀ c ∈ w, Al c) (fun w u hw hu => undone_mem Al (by simp [Al]) (by simp [Al]) hw hu) (n + 1) [w] (by simpa using aw) l hm⟩
theorem least_star : [42] ∉ leastOf sl := fun h => by
  have := (least_al hw aw hp hs [42] h).1; simp at this
theorem law_iff (m X : List Nat) (am : ∀ c ∈ m, Al c) : appl [w.map up, [42]] (sent (n + 1) m ++ 47 :: X) = appl (leastOf sl) (10 :: m) := by
  have h := least_al hw aw hp hs
  rw [behind_told hw.1 aw (sent_mem Al (by simp [Al]) (by simp [Al]) (by simp [Al]) _ _ am),
    ahead_told (fun l hl => (h l hl).1) (fun l hl => (h l hl).2) (by intro c hc; rcases List.mem_cons.mp hc with rfl | hc; simp [Al]; exact am c hc)]
  rw [Bool.eq_iff_iff, inb_iff, List.any_eq_true, leastOf_told hw hp hs]
  exact exists_congr fun l => and_congr_right fun _ => (inb_iff _ _).symm
include hz in
theorem law_min {one piece : List Nat} (h1 : one ∈ leastOf sl) (hpc : piece = one ∨ piece = one.drop 1 ∨ piece = one.dropLast) (X : List Nat) :
    appl [w.map up, [42]] (sent (n + 1) (loneOf piece) ++ 47 :: X) = decide (piece = one) := by
  have h := (least_al hw aw hp hs one h1).2
  have ap : ∀ c ∈ piece, Al c := by
    rcases hpc with rfl | rfl | rfl
    · exact h
    · exact fun c hc => h c (List.mem_of_mem_drop hc)
    · exact fun c hc => h c ((List.dropLast_subset one) hc)
  have al : ∀ c ∈ loneOf piece, Al c := by
    unfold loneOf; split
    · exact fun c hc => ap c (List.mem_of_mem_drop hc)
    · intro c hc; rcases List.mem_cons.mp hc with rfl | hc
      · simp [Al]
      · exact ap c hc
  rw [behind_told hw.1 aw (sent_mem Al (by simp [Al]) (by simp [Al]) (by simp [Al]) _ _ al)]
  rw [Bool.eq_iff_iff, inb_iff, least_min hw hz hp hs h1 hpc]
  simp
end

end Mine

end
/-! Plain6 -/
section
namespace Mine

/-! ## how many words: fewer than 64 -/
def sps : List Nat → List (List Nat)
  | [] => [[]]
  | c :: r => match sps r with
    | h :: t => if c = 13 ∧ r.head? = some 10 then [] :: h.tail :: t else (c :: h) :: t
    | [] => [[c]]
theorem sps_sp : ∀ (n : Nat) (w : List Nat), w.length ≤ n → sps w = sp w := by
  intro n
  induction n with
  | zero =>
    intro w hw
    have : w = [] := List.eq_nil_of_length_eq_zero (by omega)
    subst this; rw [sp_nil]; rfl
  | succ n ih =>
    intro w hw
    cases w with
    | nil => rw [sp_nil]; rfl
    | cons c r =>
      simp only [List.length_cons] at hw
      have i1 := ih r (by omega)
      by_cases h : c = 13 ∧ r.head? = some 10
      · obtain ⟨rfl, h10⟩ := h
        cases r with
        | nil => simp at h10
        | cons d r' =>
          simp at h10; subst h10
          obtain ⟨h', t, e1, e2⟩ := sp_cons 10 r' (by simp)
          rw [sp_end, e1]
          rw [e2] at i1
          rw [sps, i1]; simp
      · obtain ⟨h', t, e1, e2⟩ := sp_cons c r h
        rw [e2, sps, i1, e1]; simp only []; rw [if_neg h]
def undoneS (w : List Nat) : List (List Nat) :=
  if (sps (compl w)).any lone then [] else match sps (compl w) with
    | row0 :: rest => run (fronts0 row0) rest
    | [] => []
theorem undoneS_eq (w : List Nat) : undoneS w = undone w := by
  unfold undoneS undone
  rw [sps_sp _ _ (Nat.le_refl _)]
  all_goals
    split
    · rfl
    · split <;> rename_i e <;> rw [e]
def cnt : Nat → List Nat → Nat
  | 0, _ => 1
  | n + 1, w => ((undoneS w).map (cnt n)).sum
theorem words_cnt : ∀ (n : Nat) (ws : List (List Nat)), (words n ws).length = (ws.map (cnt n)).sum
  | 0, ws => by
    show ws.length = (ws.map fun _ => 1).sum
    induction ws with
    | nil => rfl
    | cons a l ih => simp only [List.length_cons, List.map_cons, List.sum_cons, ih]; omega
  | n + 1, ws => by
    show (words n (ws.flatMap undone)).length = _
    rw [words_cnt n]
    induction ws with
    | nil => rfl
    | cons a l ih => simp only [List.flatMap_cons, List.map_append, List.sum_append, List.map_cons, List.sum_cons, ih, cnt, undoneS_eq]

/-- only returns, feeds and dots count -/
def ph (c : Nat) : Nat := if c = 46 ∨ c = 13 ∨ c = 10 then c else 120
theorem ph_eq (c k : Nat) (hk : k = 46 ∨ k = 13 ∨ k = 10) : ph c = k ↔ c = k := by
  unfold ph; split <;> omega
theorem ph46 (c : Nat) : ph c = 46 ↔ c = 46 := ph_eq c 46 (by simp)
theorem ph13 (c : Nat) : ph c = 13 ↔ c = 13 := ph_eq c 13 (by simp)
theorem ph10 (c : Nat) : ph c = 10 ↔ c = 10 := ph_eq c 10 (by simp)
theorem sps_ph : ∀ w : List Nat, sps (w.map ph) = (sps w).map (List.map ph)
  | [] => rfl
  | c :: r => by
    have ih := sps_ph r
    rw [List.map_cons, sps, sps, ih]
    cases e : sps r with
    | nil => rfl
    | cons h t =>
      simp only [List.map_cons]
      have e2 : (ph c = 13 ∧ (r.map ph).head? = some 10) ↔ (c = 13 ∧ r.head? = some 10) := by
        rw [ph13]
        cases r with
        | nil => simp
        | cons d r' => simp [ph10]
      by_cases h2 : c = 13 ∧ r.head? = some 10
      · rw [if_pos h2, if_pos (e2.mpr h2)]; simp
      · rw [if_neg h2, if_neg (fun x => h2 (e2.mp x))]; simp
theorem lone_ph (r : List Nat) : lone (r.map ph) = lone r := by
  unfold lone
  rw [Bool.eq_iff_iff]
  simp only [Bool.or_eq_true, List.contains_iff_mem, List.mem_map]
  constructor
  · rintro (⟨c, hc, e⟩ | ⟨c, hc, e⟩)
    · rw [ph13] at e; subst e; exact .inl hc
    · rw [ph10] at e; subst e; exact .inr hc
  · rintro (h | h)
    · exact .inl ⟨13, h, by decide⟩
    · exact .inr ⟨10, h, by decide⟩
theorem take1_ph (r : List Nat) : ((r.map ph).take 1 = [46]) ↔ (r.take 1 = [46]) := by
  cases r with
  | nil => simp
  | cons a l => simp [ph46]
theorem take2_ph (r : List Nat) : ((r.map ph).take 2 = [46, 46]) ↔ (r.take 2 = [46, 46]) := by
  match r with
  | [] => simp
  | [a] => simp
  | a :: b :: l => simp [ph46]
theorem one46_ph (r : List Nat) : (r.map ph = [46]) ↔ (r = [46]) := by
  match r with
  | [] => simp
  | [a] => simp [ph46]
  | a :: b :: l => simp
theorem undot_ph (b : Bool) (r : List Nat) : undot b (r.map ph) = (undot b r).map (List.map ph) := by
  unfold undot
  by_cases h : r.take 2 = [46, 46]
  · rw [if_pos h, if_pos ((take2_ph r).mpr h)]; simp
  · rw [if_neg h, if_neg (fun x => h ((take2_ph r).mp x))]
    by_cases h2 : r.take 1 = [46] ∧ ¬ (b = true ∧ r = [46])
    · rw [if_pos h2, if_pos ⟨(take1_ph r).mpr h2.1, fun x => h2.2 ⟨x.1, (one46_ph r).mp x.2⟩⟩]; rfl
    · rw [if_neg h2, if_neg (fun x => h2 ⟨(take1_ph r).mp x.1, fun y => x.2 ⟨y.1, (one46_ph r).mpr y.2⟩⟩)]; rfl
theorem last_ph (f : List Nat) : ((f.map ph).getLast? = some 13) ↔ (f.getLast? = some 13) := by
  rw [List.getLast?_map]
  cases f.getLast? with
  | none => simp
  | some x => simp [ph13]
theorem step_ph (fs : List (List Nat)) (r : List Nat) (b : Bool) : step (fs.map (List.map ph)) (r.map ph) b = (step fs r b).map (List.map ph) := by
  unfold step
  rw [List.map_flatMap, List.flatMap_map]
  congr 1
  funext f
  have h13 : ph 13 = 13 := by decide
  have h10 : ph 10 = 10 := by decide
  simp only [List.map_cons, List.map_append, h13]
  congr 1
  congr 1
  · by_cases h : f.getLast? = some 13
    · rw [if_pos h, if_pos ((last_ph f).mpr h)]; rfl
    · rw [if_neg h, if_neg (fun x => h ((last_ph f).mp x))]; simp [h10]
  · have e : (f.map ph ≠ [] ∧ ¬ (b = true ∧ r.map ph = [])) ↔ (f ≠ [] ∧ ¬ (b = true ∧ r = [])) := by simp
    by_cases h : f ≠ [] ∧ ¬ (b = true ∧ r = [])
    · rw [if_pos h, if_pos (e.mpr h)]; simp [h10, h13]
    · rw [if_neg h, if_neg (fun x => h (e.mp x))]; rfl
theorem run_ph : ∀ (rest fs : List (List Nat)), run (fs.map (List.map ph)) (rest.map (List.map ph)) = (run fs rest).map (List.map ph)
  | [], _ => rfl
  | row :: rest, fs => by
    have e : (rest.map (List.map ph)).isEmpty = rest.isEmpty := by cases rest <;> rfl
    simp only [List.map_cons, run, e, undot_ph]
    cases undot rest.isEmpty row with
    | none => rfl
    | some row' =>
      simp only [Option.map_some]
      rw [step_ph, run_ph rest]
theorem compl_ph (w : List Nat) : compl (w.map ph) = (compl w).map ph := by
  have e1 : front1 (w.map ph) = (front1 w).map ph := by
    unfold front1
    have : ((w.map ph).head? = some 10) ↔ (w.head? = some 10) := by
      cases w with
      | nil => simp
      | cons a l => simp [ph10]
    by_cases h : w.head? = some 10
    · rw [if_pos h, if_pos (this.mpr h)]; simp [ph]
    · rw [if_neg h, if_neg (fun x => h (this.mp x))]
  unfold compl
  rw [e1]
  unfold back1
  by_cases h : (front1 w).getLast? = some 13
  · rw [if_pos h, if_pos ((last_ph _).mpr h)]; simp [ph]
  · rw [if_neg h, if_neg (fun x => h ((last_ph _).mp x))]
theorem fronts0_ph (r : List Nat) : fronts0 (r.map ph) = (fronts0 r).map (List.map ph) := by
  unfold fronts0
  by_cases h : r.take 2 = [46, 46]
  · rw [if_pos h, if_pos ((take2_ph r).mpr h)]; simp [ph]
  · rw [if_neg h, if_neg (fun x => h ((take2_ph r).mp x))]; simp
theorem undoneS_ph (w : List Nat) : undoneS (w.map ph) = (undoneS w).map (List.map ph) := by
  unfold undoneS
  rw [compl_ph, sps_ph]
  have e : ((sps (compl w)).map (List.map ph)).any lone = (sps (compl w)).any lone := by
    rw [List.any_map]; congr 1; funext r; exact lone_ph r
  rw [e]
  split
  · rfl
  · cases sps (compl w) with
    | nil => rfl
    | cons row0 rest => simp only [List.map_cons]; rw [fronts0_ph, run_ph]
theorem cnt_ph : ∀ (n : Nat) (w : List Nat), cnt n (w.map ph) = cnt n w
  | 0, _ => rfl
  | n + 1, w => by
    rw [cnt, cnt, undoneS_ph, List.map_map]
    congr 1
    exact List.map_congr_left fun u _ => cnt_ph n u

/-! a lone line end within: nothing comes of the word -/
theorem Nice.cons {c : Nat} {w : List Nat} (h1 : c ≠ 13) (h2 : c ≠ 10) (h : Nice w) : Nice (c :: w) := by
  refine ⟨fun pre post e => ?_, fun pre post e => ?_⟩
  · match pre, e with
    | [], e => simp at e; exact absurd e.1 h1
    | x :: p, e => simp at e; exact h.1 p post e.2
  · match pre, e with
    | [], e => simp at e; exact absurd e.1 h2
    | x :: p, e =>
      simp at e
      obtain ⟨p', hp⟩ := h.2 p post e.2
      exact ⟨x :: p', by simp [hp]⟩
theorem Nice.ends {w : List Nat} (h : Nice w) : Nice (13 :: 10 :: w) := by
  refine ⟨fun pre post e => ?_, fun pre post e => ?_⟩
  · match pre, e with
    | [], e => simp at e; rw [← e]; rfl
    | [x], e => simp at e
    | x :: y :: p, e => simp at e; exact h.1 p post e.2.2
  · match pre, e with
    | [], e => simp at e
    | [x], e => simp at e; exact ⟨[], by simp [e.1]⟩
    | x :: y :: p, e =>
      simp at e
      obtain ⟨p', hp⟩ := h.2 p post e.2.2
      exact ⟨x :: y :: p', by simp [hp]⟩
theorem Nice.free {r w : List Nat} (hr : Free r) (h : Nice w) : Nice (r ++ w) := by
  induction r with
  | nil => exact h
  | cons c r ih => exact .cons (hr c (by simp)).1 (hr c (by simp)).2 (ih fun d hd => hr d (by simp [hd]))
theorem nice_E : ∀ (rest : List (List Nat)), (∀ r ∈ rest, Free r) → Nice (E rest)
  | [], _ => ⟨fun pre post e => by simp [E] at e, fun pre post e => by simp [E] at e⟩
  | r :: rest, h => (Nice.free (h r (by simp)) (nice_E rest fun x hx => h x (by simp [hx]))).ends
theorem undone_dead {w a z : List Nat} {c d : Nat} (e : w = a ++ c :: d :: z) (h : (c = 13 ∧ d ≠ 10) ∨ (d = 10 ∧ c ≠ 13)) : undone w = [] := by
  cases hu : undone w with
  | nil => rfl
  | cons u us =>
    exfalso
    obtain ⟨row0, rest, e1, hf, _⟩ := undone_parts (w := w) (u := u) (by rw [hu]; simp)
    have e2 := sp_join _ _ (Nat.le_refl _) row0 rest e1
    have hn : Nice (compl w) := by
      rw [e2]; exact Nice.free (hf row0 (by simp)) (nice_E rest fun x hx => hf x (by simp [hx]))
    have e3 : ∃ a' z', compl w = a' ++ c :: d :: z' := by
      unfold compl back1 front1
      split <;> split
      · exact ⟨13 :: a, z ++ [10], by rw [e]; simp⟩
      · exact ⟨13 :: a, z, by rw [e]; simp⟩
      · exact ⟨a, z ++ [10], by rw [e]; simp⟩
      · exact ⟨a, z, e⟩
    obtain ⟨a', z', e3⟩ := e3
    rcases h with ⟨rfl, h⟩ | ⟨rfl, h⟩
    · have := hn.1 a' (d :: z') e3
      simp at this; exact h this
    · obtain ⟨p, hp⟩ := hn.2 (a' ++ [c]) z' (by rw [e3]; simp)
      have := (List.append_inj' hp rfl).2
      simp at this; exact h this

def ab : List Nat := [46, 13, 10, 120]
def dead : List Nat → Bool
  | c :: d :: _ => (c == 13 && d != 10) || (d == 10 && c != 13)
  | _ => false
def chk (n : Nat) : Nat → List Nat → Bool
  | 0, w => dead w || Nat.blt (cnt n w) 64
  | k + 1, w => dead w || ab.all fun c => chk n k (c :: w)
theorem chk_spec {n : Nat} (hn : n ≠ 0) : ∀ (k : Nat) (v : List Nat), chk n k v = true → ∀ x : List Nat, x.length = k → (∀ c ∈ x, c ∈ ab) → cnt n (x ++ v) < 64 := by
  have hd : ∀ v x, dead v = true → cnt n (x ++ v) < 64 := by
    intro v x h
    have : undone (x ++ v) = [] := by
      match v, h with
      | c :: d :: z, h =>
        refine undone_dead (a := x) (z := z) (c := c) (d := d) rfl ?_
        simpa [dead] using h
    cases n with
    | zero => exact absurd rfl hn
    | succ n => rw [cnt, undoneS_eq, this]; simp
  intro k
  induction k with
  | zero =>
    intro v h x hx _
    have : x = [] := List.eq_nil_of_length_eq_zero hx
    subst this
    rw [chk, Bool.or_eq_true] at h
    rcases h with h | h
    · exact hd v [] h
    · exact Nat.blt_eq.mp h
  | succ k ih =>
    intro v h x hx hc
    rw [chk, Bool.or_eq_true] at h
    rcases h with h | h
    · exact hd v x h
    · have hne : x ≠ [] := by intro e; rw [e] at hx; simp at hx
      have e : x = x.dropLast ++ [x.getLast hne] := (List.dropLast_concat_getLast hne).symm
      rw [List.all_eq_true] at h
      have h1 := h (x.getLast hne) (hc _ (List.getLast_mem hne))
      have h2 := ih _ h1 x.dropLast (by rw [List.length_dropLast]; omega) (fun c h => hc c (List.dropLast_subset x h))
      have e2 : x ++ v = x.dropLast ++ x.getLast hne :: v := by
        conv => lhs; rw [e]
        simp
      rw [e2]; exact h2
theorem chk1 : ([3, 4, 5, 6].all fun k => chk 1 k []) = true := by decide +kernel
theorem chk2 : ([3, 4, 5, 6].all fun k => chk 2 k []) = true := by decide +kernel
theorem chk3 : ([3, 4, 5, 6].all fun k => chk 3 k []) = true := by decide +kernel
theorem ph_ab (c : Nat) : ph c ∈ ab := by
  unfold ph ab; split
  · rename_i h; rcases h with rfl | rfl | rfl <;> simp
  · simp
theorem words_lt {w : List Nat} (h3 : 3 ≤ w.length) (h6 : w.length ≤ 6) {n : Nat} (h1 : 1 ≤ n) (hn : n ≤ 3) : (words n [w]).length < 64 := by
  rw [words_cnt]
  simp only [List.map_cons, List.map_nil, List.sum_cons, List.sum_nil, Nat.add_zero]
  rw [← cnt_ph]
  have hk : w.length ∈ [3, 4, 5, 6] := by
    simp; omega
  have all : chk n w.length [] = true := by
    have : n = 1 ∨ n = 2 ∨ n = 3 := by omega
    rcases this with rfl | rfl | rfl
    · exact List.all_eq_true.mp chk1 _ hk
    · exact List.all_eq_true.mp chk2 _ hk
    · exact List.all_eq_true.mp chk3 _ hk
  have := chk_spec (by omega) w.length [] all (w.map ph) (by simp) (by
    intro c hc
    obtain ⟨d, _, rfl⟩ := List.mem_map.mp hc
    exact ph_ab d)
  simpa using this

/-! sizes on the way -/
theorem step_len (fs : List (List Nat)) (r : List Nat) (b : Bool) : (step fs r b).length ≤ 3 * fs.length := by
  unfold step
  induction fs with
  | nil => simp
  | cons f fs ih =>
    rw [List.flatMap_cons, List.length_append]
    have : ((f ++ 13 :: r) :: ((if f.getLast? = some 13 then [] else [f ++ 10 :: r]) ++ (if f ≠ [] ∧ ¬ (b = true ∧ r = []) then [f ++ 13 :: 10 :: r] else []))).length ≤ 3 := by
      split <;> split <;> simp
    simp only [List.length_cons (as := fs)]
    omega
theorem fronts0_len (r : List Nat) : (fronts0 r).length ≤ 3 := by
  unfold fronts0; split <;> simp
theorem run_len : ∀ (rest fs : List (List Nat)), (run fs rest).length ≤ 3 ^ rest.length * fs.length
  | [], fs => by simp [run]
  | row :: rest, fs => by
    rw [run]
    split
    · simp
    · rename_i row' _
      have h1 := run_len rest (step fs row' rest.isEmpty)
      have h2 := step_len fs row' rest.isEmpty
      calc _ ≤ 3 ^ rest.length * (step fs row' rest.isEmpty).length := h1
        _ ≤ 3 ^ rest.length * (3 * fs.length) := Nat.mul_le_mul_left _ h2
        _ = 3 ^ (rest.length + 1) * fs.length := by rw [Nat.pow_succ, Nat.mul_assoc]
theorem sp_len : ∀ (n : Nat) (w : List Nat), w.length ≤ n → 2 * (sp w).length ≤ w.length + 2 := by
  intro n
  induction n with
  | zero =>
    intro w hw
    have : w = [] := List.eq_nil_of_length_eq_zero (by omega)
    subst this; rw [sp_nil]; simp
  | succ n ih =>
    intro w hw
    cases w with
    | nil => rw [sp_nil]; simp
    | cons a w =>
      simp only [List.length_cons] at hw
      by_cases h : a = 13 ∧ w.head? = some 10
      · obtain ⟨rfl, h10⟩ := h
        cases w with
        | nil => simp at h10
        | cons d w =>
          simp at h10; subst h10
          rw [sp_end]
          simp only [List.length_cons] at hw ⊢
          have := ih w (by omega)
          omega
      · obtain ⟨h', t, e1, e2⟩ := sp_cons a w h
        have := ih w (by omega)
        rw [e1] at this
        rw [e2]
        simp only [List.length_cons] at this ⊢
        omega
end Mine

end
/-! Hd -/
section
namespace Mine
open PySem PySem.W PyProof.Rows
set_option maxRecDepth 100000
set_option maxHeartbeats 8000000
open_top hd for PySem.Challenge.rw_sc0024_01

/-- the walk's lines for a top are set aside again -/
theorem top_off : True := by
  w_top off
  trivial
end Mine
end
/-! Eng -/
section
open PySem
namespace Mine

def c1 : Array Nat := #[14, 4, 0, 1, 1, 6, 1, 16, 46, 1]
def c2 : Array Nat := #[14, 9, 4, 1, 2, 16, 10, 16, 13, 0, 7, 7, 16, 13, 16, 10, 15, 18, 5, 16, 10, 15, 13, 11, 16, 13, 5, 5, 0, 16, 10, 1, 15, 2, 0, 1]

/-- from here the machine comes to an end, and this is so of it -/
def Ends (m : Sre.M) (n : Nat) (P : Sre.M → Prop) : Prop := ∃ k, k ≤ n ∧ (m.runFor k).outcome.isSome = true ∧ P (m.runFor k)

theorem runFor_add : ∀ (a b : Nat) (m : Sre.M), m.runFor (a + b) = (m.runFor a).runFor b
  | 0, b, m => by simp [Sre.M.runFor]
  | a + 1, b, m => by
    rw [Nat.add_right_comm]
    show (if m.outcome.isSome then m else Sre.M.runFor (a + b) m.step) = Sre.M.runFor b (if m.outcome.isSome then m else Sre.M.runFor a m.step)
    split
    · rename_i h
      cases b with
      | zero => rfl
      | succ b => simp [Sre.M.runFor, h]
    · exact runFor_add a b m.step
theorem runFor_done (m : Sre.M) (h : m.outcome.isSome = true) (n : Nat) : m.runFor n = m := by
  cases n with
  | zero => rfl
  | succ n => simp [Sre.M.runFor, h]
theorem runFor_one (m : Sre.M) (h : m.outcome = none) : m.runFor 1 = m.step := by simp [Sre.M.runFor, h]

theorem Ends.later {m m' : Sre.M} {a n : Nat} {P : Sre.M → Prop} (e : m.runFor a = m') (h : Ends m' n P) : Ends m (a + n) P := by
  obtain ⟨k, hk, h1, h2⟩ := h
  refine ⟨a + k, by omega, ?_, ?_⟩ <;> rw [runFor_add, e] <;> assumption
theorem Ends.more {m : Sre.M} {n n' : Nat} {P : Sre.M → Prop} (h : Ends m n P) (hn : n ≤ n') : Ends m n' P := by
  obtain ⟨k, hk, h⟩ := h; exact ⟨k, by omega, h⟩
theorem Ends.step {m : Sre.M} {n : Nat} {P : Sre.M → Prop} (h0 : m.outcome = none) (h : Ends m.step n P) : Ends m (n + 1) P := by
  have := Ends.later (m := m) (a := 1) (runFor_one m h0) h
  rwa [Nat.add_comm] at this
theorem Ends.now {m : Sre.M} {P : Sre.M → Prop} (h : m.outcome.isSome = true) (hP : P m) : Ends m 0 P := ⟨0, Nat.le_refl _, h, hP⟩

/-! ## the first pattern: a dot at a line's start -/
def A1 (x : Array Nat) (must : Bool) (p hd : Nat) (o : Bool) (sn : Sre.Seen) : Sre.M :=
  { code := c1, text := x, lim := x.size, start := p, lastStart := x.size, mustAdvance := must, pc := 5, pos := p, handed := hd, outermost := o, marks := #[],
    frames := [{ wait := .nextStart, pc := 5, pos := p, outermost := o }], weight := 1, seen := sn }

theorem for1 (x : Array Nat) (p : Nat) (must : Bool) (hp : p < x.size) : ∃ sn, Sre.forSearch c1 x 0 p x.size must = A1 x must p p true sn := by
  refine ⟨({} : Sre.Seen).add 14, ?_⟩
  unfold Sre.forSearch
  have h1 : (decide (p > x.size) || decide (x.size - p < 1)) = false := by simp; omega
  show (if (decide (p > x.size) || decide (x.size - p < 1)) = true then _ else _) = _
  rw [h1]
  rfl
theorem for1_end (x : Array Nat) (p : Nat) (must : Bool) (hp : ¬ p < x.size) : Ends (Sre.forSearch c1 x 0 p x.size must) 1 (fun m => m.outcome = some .failed) := by
  unfold Sre.forSearch
  have h1 : (decide (p > x.size) || decide (x.size - p < 1)) = true := by simp; omega
  show Ends (if (decide (p > x.size) || decide (x.size - p < 1)) = true then _ else _) 1 _
  rw [h1]
  exact Ends.step rfl (Ends.now rfl rfl)

def At1 (x : Array Nat) (p : Nat) : Prop := p < x.size ∧ x.getD p 0 = 46 ∧ (p = 0 ∨ x.getD (p - 1) 0 = 10)

theorem A1_at (x : Array Nat) (must : Bool) (p hd : Nat) (o : Bool) (sn : Sre.Seen) : (A1 x must p hd o sn).step =
    if (p == 0 || x.getD (p - 1) 0 == 10) = true then { A1 x must p hd o sn with seen := ((sn.add 6).add 44), pc := 7 } else { A1 x must p hd o sn with seen := ((sn.add 6).add 44), answer := some false } := rfl
theorem A1_lit (x : Array Nat) (must : Bool) (p hd : Nat) (o : Bool) (sn : Sre.Seen) : ({ A1 x must p hd o sn with pc := 7 } : Sre.M).step =
    if p ≥ x.size then { A1 x must p hd o sn with seen := sn.add 16, pc := 7, answer := some false }
    else if (x.getD p 0 == 46) = true then { A1 x must p hd o sn with seen := sn.add 16, pc := 9, pos := p + 1 } else { A1 x must p hd o sn with seen := sn.add 16, pc := 7, answer := some false } := by
  show (if p ≥ x.size then _ else (match (Except.ok (x.getD p 0 == 46, sn.add 16) : Except String (Bool × Sre.Seen)) with
    | .error why => _
    | .ok (false, seen) => _
    | .ok (true, seen) => _)) = _
  split
  · rfl
  · cases x.getD p 0 == 46 <;> rfl
theorem A1_ok (x : Array Nat) (must : Bool) (p hd : Nat) (o : Bool) (sn : Sre.Seen) : ({ A1 x must p hd o sn with pc := 9, pos := p + 1 } : Sre.M).runFor 3 =
    { A1 x must p hd o sn with seen := sn.add 1, pc := 5, handed := p + 1, frames := [], weight := 0, answer := some true, outcome := some .matched } := by
  have h : (o && ((false && p + 1 != x.size) || (must && p + 1 == p))) = false := by
    have : (p + 1 == p) = false := by simp
    simp [this]
  have e1 : ({ A1 x must p hd o sn with pc := 9, pos := p + 1 } : Sre.M).step = { A1 x must p hd o sn with seen := sn.add 1, pc := 9, pos := p + 1, handed := p + 1, answer := some true } := by
    show (if (o && ((false && p + 1 != x.size) || (must && p + 1 == p))) = true then _ else _) = _
    rw [h]; rfl
  show Sre.M.runFor 2 (Sre.M.step _) = _
  rw [e1]
  rfl
theorem A1_no (x : Array Nat) (must : Bool) (p hd : Nat) (o : Bool) (sn : Sre.Seen) (k : Nat) : ({ A1 x must p hd o sn with pc := k, answer := some false } : Sre.M).step =
    if p < x.size then A1 x false (p + 1) (p + 1) false sn else { A1 x must p hd o sn with frames := [], weight := 0, answer := some false } := rfl

theorem A1_hit (x : Array Nat) (must : Bool) (p hd : Nat) (o : Bool) (sn : Sre.Seen) (h : At1 x p) :
    Ends (A1 x must p hd o sn) 6 (fun m => m.outcome = some .matched ∧ m.start = p ∧ m.handed = p + 1) := by
  obtain ⟨h1, h2, h3⟩ := h
  have h3' : (p == 0 || x.getD (p - 1) 0 == 10) = true := by simpa using h3
  refine Ends.more (n := 5) ?_ (by decide)
  refine Ends.step rfl ?_
  rw [A1_at, if_pos h3']
  refine Ends.step rfl ?_
  have e := A1_lit x must p hd o ((sn.add 6).add 44)
  rw [if_neg (by omega), h2, if_pos (by decide)] at e
  show Ends (({ A1 x must p hd o ((sn.add 6).add 44) with pc := 7 } : Sre.M).step) 3 _
  rw [e]
  exact Ends.later (A1_ok x must p hd o (((sn.add 6).add 44).add 16)) (Ends.now (P := fun m => m.outcome = some .matched ∧ m.start = p ∧ m.handed = p + 1) rfl ⟨rfl, rfl, rfl⟩)
theorem A1_miss (x : Array Nat) (must : Bool) (p hd : Nat) (o : Bool) (sn : Sre.Seen) (h : ¬ At1 x p) (n : Nat) (P : Sre.M → Prop)
    (next : p < x.size → ∀ sn', Ends (A1 x false (p + 1) (p + 1) false sn') n P) (stop : ¬ p < x.size → ∀ m : Sre.M, m.outcome = some .failed → P m) : Ends (A1 x must p hd o sn) (n + 4) P := by
  have no : ∀ (sn' : Sre.Seen) (k : Nat), Ends ({ A1 x must p hd o sn' with pc := k, answer := some false } : Sre.M) (n + 2) P := by
    intro sn' k
    refine Ends.step rfl ?_
    rw [A1_no]
    split
    · rename_i hlt; exact (next hlt sn').more (by omega)
    · rename_i hlt
      refine Ends.more (n := 1) ?_ (by omega)
      exact Ends.step rfl (Ends.now rfl (stop hlt _ rfl))
  refine Ends.step rfl ?_
  rw [A1_at]
  split
  · rename_i h3
    refine Ends.step rfl ?_
    show Ends (({ A1 x must p hd o ((sn.add 6).add 44) with pc := 7 } : Sre.M).step) _ _
    rw [A1_lit]
    split
    · exact no (((sn.add 6).add 44).add 16) 7
    · split
      · rename_i h1 h2
        exact absurd ⟨by omega, by simpa using h2, by simpa using h3⟩ h
      · exact no (((sn.add 6).add 44).add 16) 7
  · exact (no ((sn.add 6).add 44) 5).more (by omega)

/-- where the first pattern is found next -/
def find1 (x : Array Nat) : Nat → Nat → Option Nat
  | 0, _ => none
  | n + 1, p => if p < x.size ∧ x.getD p 0 = 46 ∧ (p = 0 ∨ x.getD (p - 1) 0 = 10) then some p else find1 x n (p + 1)

def Found (r : Option (Nat × Nat)) (m : Sre.M) : Prop := match r with
  | some (a, b) => m.outcome = some .matched ∧ m.start = a ∧ m.handed = b
  | none => m.outcome = some .failed

theorem A1_ends (x : Array Nat) : ∀ (n p : Nat), p + n = x.size → ∀ (must : Bool) (hd : Nat) (o : Bool) (sn : Sre.Seen),
    Ends (A1 x must p hd o sn) (6 * (n + 1)) (Found ((find1 x n p).map fun a => (a, a + 1)))
  | 0, p, hp => by
    intro must hd o sn
    refine Ends.more (A1_miss x must p hd o sn (fun h => ?_) 0 _ (fun hlt sn' => ?_) (fun hlt m hm => ?_)) (by omega)
    · have := h.1; omega
    · omega
    · exact hm
  | n + 1, p, hp => by
    intro must hd o sn
    rw [find1]
    split
    · rename_i h
      exact (A1_hit x must p hd o sn h).more (by omega)
    · rename_i h
      refine Ends.more (A1_miss x must p hd o sn h (6 * (n + 1)) _ (fun hlt sn' => ?_) (fun hlt m hm => ?_)) (by omega)
      · exact A1_ends x n (p + 1) (by omega) false (p + 1) false sn'
      · omega

theorem search1 (x : Array Nat) (p : Nat) (must : Bool) (hp : p ≤ x.size) : Ends (Sre.forSearch c1 x 0 p x.size must) (6 * (x.size + 2)) (Found ((find1 x (x.size - p) p).map fun a => (a, a + 1))) := by
  by_cases h : p < x.size
  · obtain ⟨sn, e⟩ := for1 x p must h
    rw [e]
    exact (A1_ends x (x.size - p) p (by omega) must p true sn).more (by omega)
  · have e : x.size - p = 0 := by omega
    rw [e]
    exact (for1_end x p must h).more (by omega)

/-! ## the second pattern: a line end -/
def A2 (x : Array Nat) (p : Nat) (sn : Sre.Seen) (pc pos hd : Nat) (oo : Bool) (fs : List Sre.Frame) (wt : Nat) (ans : Option Bool) : Sre.M :=
  { code := c2, text := x, lim := x.size, start := p, lastStart := x.size, pc := pc, pos := pos, handed := hd, outermost := oo, marks := #[],
    frames := fs, weight := wt, seen := sn, answer := ans }
def f2 (p : Nat) : Sre.Frame := { wait := .nextStart, pc := 10, pos := p, outermost := true }
def b2 (p alt : Nat) : Sre.Frame := { wait := .nextBranch, pc := alt, pos := p, outermost := true, kept := {} }
def n2 (p : Nat) : Sre.Frame := { wait := .lookNot, pc := 26, pos := p, outermost := true, kept := {} }

theorem lit2 (x : Array Nat) (p : Nat) (sn : Sre.Seen) (pc pos hd : Nat) (oo : Bool) (fs : List Sre.Frame) (wt ch : Nat) (h : (pc, ch) ∈ [(12, 13), (14, 10), (19, 10), (24, 13), (29, 10)]) :
    ∃ sn', (A2 x p sn pc pos hd oo fs wt none).step = if pos < x.size ∧ x.getD pos 0 = ch then A2 x p sn' (pc + 2) (pos + 1) hd oo fs wt none else A2 x p sn' pc pos hd oo fs wt (some false) := by
  refine ⟨sn.add 16, ?_⟩
  have e : (A2 x p sn pc pos hd oo fs wt none).step = (if pos ≥ x.size then A2 x p (sn.add 16) pc pos hd oo fs wt (some false) else match (Except.ok (x.getD pos 0 == ch, sn.add 16) : Except String (Bool × Sre.Seen)) with
    | .error why => (A2 x p (sn.add 16) pc pos hd oo fs wt none).stick why
    | .ok (false, seen) => A2 x p seen pc pos hd oo fs wt (some false)
    | .ok (true, seen) => A2 x p seen (pc + 2) (pos + 1) hd oo fs wt none) := by
    simp only [List.mem_cons, Prod.mk.injEq, List.not_mem_nil, or_false] at h
    rcases h with ⟨rfl, rfl⟩ | ⟨rfl, rfl⟩ | ⟨rfl, rfl⟩ | ⟨rfl, rfl⟩ | ⟨rfl, rfl⟩ <;> rfl
  rw [e]
  by_cases h1 : pos ≥ x.size
  · rw [if_pos h1, if_neg (fun h => by omega)]
  · rw [if_neg h1]
    by_cases h2 : x.getD pos 0 = ch
    · rw [if_pos ⟨by omega, h2⟩]
      have : (x.getD pos 0 == ch) = true := by simpa using h2
      rw [this]
    · rw [if_neg (fun h => h2 h.2)]
      have : (x.getD pos 0 == ch) = false := by simpa using h2
      rw [this]

theorem ok2 (x : Array Nat) (p : Nat) (sn : Sre.Seen) (pos alt : Nat) (hd : Nat) (P : Sre.M → Prop) (h : ∀ m : Sre.M, m.outcome = some .matched → m.start = p → m.handed = pos → P m) :
    Ends (A2 x p sn 35 pos hd true [b2 p alt, f2 p] 2 none) 4 P := by
  refine Ends.step rfl ?_
  have e : (A2 x p sn 35 pos hd true [b2 p alt, f2 p] 2 none).step = A2 x p (sn.add 1) 35 pos pos true [b2 p alt, f2 p] 2 (some true) := rfl
  rw [e]
  have e3 : (A2 x p (sn.add 1) 35 pos pos true [b2 p alt, f2 p] 2 (some true)).runFor 3 = { A2 x p (sn.add 1) 10 p pos true [] 0 (some true) with outcome := some .matched } := rfl
  exact Ends.later e3 (Ends.now rfl (h _ rfl rfl rfl))

/-- how long a line end is -/
def wide (x : Array Nat) (p : Nat) : Nat := if x.getD p 0 = 13 ∧ p + 1 < x.size ∧ x.getD (p + 1) 0 = 10 then 2 else 1

theorem A2_hit (x : Array Nat) (p : Nat) (sn : Sre.Seen) (hp : p < x.size) (hc : x.getD p 0 = 10 ∨ x.getD p 0 = 13) (P : Sre.M → Prop)
    (h : ∀ m : Sre.M, m.outcome = some .matched → m.start = p → m.handed = p + wide x p → P m) : Ends (A2 x p sn 10 p p true [f2 p] 1 none) 20 P := by
  refine Ends.more (n := 16) ?_ (by decide)
  refine Ends.step rfl ?_
  have e1 : (A2 x p sn 10 p p true [f2 p] 1 none).step = A2 x p (sn.add 7) 12 p p true [b2 p 11, f2 p] 2 none := rfl
  rw [e1]
  refine Ends.step rfl ?_
  obtain ⟨s2, e2⟩ := lit2 x p (sn.add 7) 12 p p true [b2 p 11, f2 p] 2 13 (by simp)
  rw [e2]
  -- the second way, then the third
  have alt2 : ∀ (sn : Sre.Seen) (k pos : Nat), (A2 x p sn k pos p true [b2 p 11, f2 p] 2 (some false)).step = A2 x p sn 19 p p true [b2 p 18, f2 p] 2 none := fun _ _ _ => rfl
  have alt3 : ∀ (sn : Sre.Seen) (k pos : Nat), (A2 x p sn k pos p true [b2 p 18, f2 p] 2 (some false)).step = A2 x p sn 24 p p true [b2 p 23, f2 p] 2 none := fun _ _ _ => rfl
  by_cases h13 : x.getD p 0 = 13
  · rw [if_pos ⟨hp, h13⟩]
    refine Ends.step rfl ?_
    obtain ⟨s3, e3⟩ := lit2 x p s2 14 (p + 1) p true [b2 p 11, f2 p] 2 10 (by simp)
    rw [e3]
    by_cases h10 : p + 1 < x.size ∧ x.getD (p + 1) 0 = 10
    · rw [if_pos h10]
      have hw : wide x p = 2 := by unfold wide; rw [if_pos ⟨h13, h10⟩]
      refine Ends.more (n := 5) ?_ (by decide)
      refine Ends.step rfl ?_
      have e4 : (A2 x p s3 (14 + 2) (p + 1 + 1) p true [b2 p 11, f2 p] 2 none).step = A2 x p (s3.add 15) 35 (p + 2) p true [b2 p 11, f2 p] 2 none := rfl
      rw [e4]
      exact ok2 x p _ (p + 2) 11 p P fun m a b c => h m a b (by rw [hw]; exact c)
    · rw [if_neg h10]
      have hw : wide x p = 1 := by unfold wide; rw [if_neg (fun h => h10 h.2)]
      refine Ends.step rfl ?_
      rw [alt2]
      refine Ends.step rfl ?_
      obtain ⟨s5, e5⟩ := lit2 x p s3 19 p p true [b2 p 18, f2 p] 2 10 (by simp)
      rw [e5, if_neg (fun h => by omega)]
      refine Ends.step rfl ?_
      rw [alt3]
      refine Ends.step rfl ?_
      obtain ⟨s6, e6⟩ := lit2 x p s5 24 p p true [b2 p 23, f2 p] 2 13 (by simp)
      rw [e6, if_pos ⟨hp, h13⟩]
      refine Ends.step rfl ?_
      have e7 : (A2 x p s6 (24 + 2) (p + 1) p true [b2 p 23, f2 p] 2 none).step = A2 x p (s6.add 5) 29 (p + 1) (p + 1) false [n2 (p + 1), b2 p 23, f2 p] 3 none := rfl
      rw [e7]
      refine Ends.step rfl ?_
      obtain ⟨s8, e8⟩ := lit2 x p (s6.add 5) 29 (p + 1) (p + 1) false [n2 (p + 1), b2 p 23, f2 p] 3 10 (by simp)
      rw [e8, if_neg h10]
      refine Ends.step rfl ?_
      have e9 : (A2 x p s8 29 (p + 1) (p + 1) false [n2 (p + 1), b2 p 23, f2 p] 3 (some false)).step = A2 x p s8 32 (p + 1) (p + 1) true [b2 p 23, f2 p] 2 none := rfl
      rw [e9]
      refine Ends.step rfl ?_
      have e10 : (A2 x p s8 32 (p + 1) (p + 1) true [b2 p 23, f2 p] 2 none).step = A2 x p (s8.add 15) 35 (p + 1) (p + 1) true [b2 p 23, f2 p] 2 none := rfl
      rw [e10]
      exact (ok2 x p _ (p + 1) 23 (p + 1) P fun m a b c => h m a b (by rw [hw]; exact c)).more (by decide)
  · have h10 : x.getD p 0 = 10 := hc.resolve_right h13
    have hw : wide x p = 1 := by unfold wide; rw [if_neg (fun h => h13 h.1)]
    rw [if_neg (fun h => h13 h.2)]
    refine Ends.step rfl ?_
    rw [alt2]
    refine Ends.step rfl ?_
    obtain ⟨s5, e5⟩ := lit2 x p s2 19 p p true [b2 p 18, f2 p] 2 10 (by simp)
    rw [e5, if_pos ⟨hp, h10⟩]
    refine Ends.step rfl ?_
    have e4 : (A2 x p s5 (19 + 2) (p + 1) p true [b2 p 18, f2 p] 2 none).step = A2 x p (s5.add 15) 35 (p + 1) p true [b2 p 18, f2 p] 2 none := rfl
    rw [e4]
    exact (ok2 x p _ (p + 1) 18 p P fun m a b c => h m a b (by rw [hw]; exact c)).more (by decide)

/-- where a line end stands next -/
def find2 (x : Array Nat) : Nat → Nat → Option Nat
  | 0, _ => none
  | n + 1, p => if p < x.size ∧ (x.getD p 0 = 10 ∨ x.getD p 0 = 13) then some p else find2 x n (p + 1)

theorem inSet2 (c : Nat) (n : Nat) (sn : Sre.Seen) : ∃ sn', Sre.inSet c2 c (n + 3) 5 true sn = .ok (c == 10 || c == 13, sn') := by
  by_cases h1 : c = 10
  · subst h1; exact ⟨_, rfl⟩
  · by_cases h2 : c = 13
    · subst h2; exact ⟨_, rfl⟩
    · have e1 : (c == 10) = false := by simpa using h1
      have e2 : (c == 13) = false := by simpa using h2
      refine ⟨((sn.add 16).add 16).add 0, ?_⟩
      show (if (c == 10) = true then _ else if (c == 13) = true then _ else _) = _
      rw [e1, e2]; rfl

theorem admitted2 (m : Sre.M) (x : Array Nat) (hc : m.code = c2) (ht : m.text = x) (hl : m.lim = x.size) : ∀ (n p : Nat) (sn : Sre.Seen), ∃ sn', Sre.M.admitted m n p sn = .ok (find2 x n p, sn')
  | 0, p, sn => ⟨sn, rfl⟩
  | n + 1, p, sn => by
    rw [Sre.M.admitted, find2, hc, ht, hl]
    by_cases h : p ≥ x.size
    · rw [if_pos h, if_neg (by omega)]
      have : find2 x n (p + 1) = none := by
        have key : ∀ n q, x.size ≤ q → find2 x n q = none := by
          intro n
          induction n with
          | zero => intro q _; rfl
          | succ n ih => intro q hq; rw [find2, if_neg (by omega)]; exact ih (q + 1) (by omega)
        exact key n (p + 1) (by omega)
      rw [this]
      exact ⟨sn, rfl⟩
    · rw [if_neg h]
      obtain ⟨sn', e⟩ := inSet2 (x.getD p 0) 33 sn
      rw [show c2.size = 33 + 3 from rfl, e]
      by_cases h2 : x.getD p 0 = 10 ∨ x.getD p 0 = 13
      · have e2 : (x.getD p 0 == 10 || x.getD p 0 == 13) = true := by simpa using h2
        rw [e2, if_pos ⟨by omega, h2⟩]
        exact ⟨sn', rfl⟩
      · have e2 : (x.getD p 0 == 10 || x.getD p 0 == 13) = false := by simpa using h2
        rw [e2, if_neg (fun h => h2 h.2)]
        exact admitted2 m x hc ht hl n (p + 1) sn'

theorem find2_at (x : Array Nat) : ∀ (n p a : Nat), find2 x n p = some a → a < x.size ∧ (x.getD a 0 = 10 ∨ x.getD a 0 = 13)
  | 0, _, _, h => by cases h
  | n + 1, p, a, h => by
    rw [find2] at h
    split at h
    · cases h; assumption
    · exact find2_at x n (p + 1) a h

theorem search2 (x : Array Nat) (p : Nat) (must : Bool) (hp : p ≤ x.size) : Ends (Sre.forSearch c2 x 0 p x.size must) 30 (Found ((find2 x (x.size + 1 - p) p).map fun a => (a, a + wide x a))) := by
  by_cases h : p < x.size
  · unfold Sre.forSearch
    have h1 : (decide (p > x.size) || decide (x.size - p < 1)) = false := by simp; omega
    show Ends (if (decide (p > x.size) || decide (x.size - p < 1)) = true then _ else _) 30 _
    rw [h1]
    simp only [Bool.false_eq_true, if_false]
    unfold Sre.M.attemptFrom
    show Ends (if (!true) = true then _ else _) 30 _
    simp only [Bool.not_true, Bool.false_eq_true, if_false]
    obtain ⟨sn', e⟩ := admitted2 { code := c2, text := x, lim := x.size, start := p, lastStart := x.size, mustAdvance := must, pc := 10, pos := p, handed := p, marks := #[], seen := ({} : Sre.Seen).add 14 } x rfl rfl rfl (x.size + 1 - p) p (({} : Sre.Seen).add 14)
    show Ends (match Sre.M.admitted { code := c2, text := x, lim := x.size, start := p, lastStart := x.size, mustAdvance := must, pc := 10, pos := p, handed := p, marks := #[], seen := ({} : Sre.Seen).add 14 } (x.size + 1 - p) p (({} : Sre.Seen).add 14) with
      | .ok (some s, seen) => _
      | .ok (none, seen) => _
      | .error why => _) 30 _
    rw [e]
    cases hf : find2 x (x.size + 1 - p) p with
    | none => exact Ends.more (n := 1) (Ends.step rfl (Ends.now rfl rfl)) (by decide)
    | some a =>
      obtain ⟨a1, a2⟩ := find2_at x _ _ _ hf
      exact (A2_hit x a sn' a1 a2 _ fun m b c d => ⟨b, c, d⟩).more (by decide)
  · unfold Sre.forSearch
    have h1 : (decide (p > x.size) || decide (x.size - p < 1)) = true := by simp; omega
    show Ends (if (decide (p > x.size) || decide (x.size - p < 1)) = true then _ else _) 30 _
    rw [h1]
    have e : find2 x (x.size + 1 - p) p = none := by
      have : p = x.size := by omega
      subst this
      have : x.size + 1 - x.size = 1 := by omega
      rw [this, find2, if_neg (by omega)]; rfl
    rw [e]
    exact Ends.more (n := 1) (Ends.step rfl (Ends.now rfl rfl)) (by decide)
end Mine

end
/-! Sub -/
section
open PySem PySem.W PyProof.Rows PySem.Calls
set_option maxRecDepth 100000
set_option maxHeartbeats 1000000
namespace Mine
open PySem.Builtin PySem.Builtin.Re

theorem entry_sub : entryFor table "re.Pattern.sub" = some Builtin.«re.Pattern.sub» := entryFor_of_tree (by kernel_rfl)
theorem entry_subloop : entryFor table "re.Pattern.sub.loop" = some Builtin.«re.Pattern.sub.loop» := entryFor_of_tree (by kernel_rfl)
theorem plain_sub : plainId "re.Pattern.sub" = true := by decide +kernel
theorem plain_subloop : plainId "re.Pattern.sub.loop" = true := by decide +kernel

section
variable {M : Model} {A : Around} {E : Value → Shared → Prop} {s : Shared}
theorem drive_ends : ∀ (turns : Nat) (n : Nat) (m : Sre.M) (P : Sre.M → Prop) (Q : Sre.M → Shared → Prop), Ends m n P → n < 4 * turns →
    (∀ m', m'.outcome.isSome = true → P m' → Q m' s) → wpAny M A (reDrive turns m) Q E s
  | 0, n, m, P, Q, _, hn, _ => by omega
  | t + 1, n, m, P, Q, h, hn, hQ => by
    rw [reDrive]
    by_cases h4 : (m.runFor 4).outcome.isSome = true
    · have hP : P (m.runFor 4) := by
        obtain ⟨k, hk, h1, h2⟩ := h
        rcases Nat.le_total k 4 with hk4 | hk4
        · obtain ⟨d, ed⟩ := Nat.exists_eq_add_of_le hk4
          have e := runFor_add k d m
          rw [← ed, runFor_done _ h1] at e
          rw [e]; exact h2
        · obtain ⟨d, rfl⟩ := Nat.exists_eq_add_of_le hk4
          rw [runFor_add, runFor_done _ h4] at h2; exact h2
      show wpAny M A (if (m.runFor 4).outcome.isSome = true then pure (m.runFor 4) else _) Q E s
      rw [if_pos h4]
      exact wpAny_pure (hQ _ h4 hP)
    · show wpAny M A (if (m.runFor 4).outcome.isSome = true then pure (m.runFor 4) else (do rule "sre.turn"; reDrive t (m.runFor 4))) Q E s
      rw [if_neg h4]
      refine wpAny_bind (wpAny_rule ?_)
      obtain ⟨k, hk, h1, h2⟩ := h
      have hk4 : 4 ≤ k := by
        rcases Nat.le_total 4 k with h | h
        · exact h
        · obtain ⟨d, ed⟩ := Nat.exists_eq_add_of_le h
          exfalso
          have e := runFor_add k d m
          rw [← ed, runFor_done _ h1] at e
          rw [e] at h4; exact h4 h1
      obtain ⟨d, rfl⟩ := Nat.exists_eq_add_of_le hk4
      rw [runFor_add] at h1 h2
      exact drive_ends t d (m.runFor 4) P Q ⟨d, Nat.le_refl _, h1, h2⟩ (by omega) hQ

theorem rules_pass (m : Sre.M) {Q : PUnit → Shared → Prop} (h : Q ⟨⟩ s) : ∀ l : List Nat,
    wpAny M A (forIn l PUnit.unit fun i _ => if m.seen.has i = true then (do rule (Sre.names.getD i ""); pure (ForInStep.yield PUnit.unit)) else pure (ForInStep.yield PUnit.unit)) Q E s
  | [] => by rw [List.forIn_nil]; exact wpAny_pure h
  | a :: l => by
    rw [List.forIn_cons]
    refine wpAny_bind ?_
    split
    · exact wpAny_bind (wpAny_rule (wpAny_pure (rules_pass m h l)))
    · exact wpAny_pure (rules_pass m h l)

theorem runToEnd {m : Sre.M} {n : Nat} {r : Option (Nat × Nat)} {Q : Option Sre.M → Shared → Prop} (h : Ends m n (Found r)) (hn : n < 4 * 2 ^ 64)
    (hs : ∀ a b, r = some (a, b) → ∀ m' : Sre.M, m'.start = a → m'.handed = b → Q (some m') s) (hf : r = none → Q none s) : wpAny M A (reRunToEnd m) Q E s := by
  unfold reRunToEnd
  refine wpAny_bind (drive_ends (2 ^ 64) n m (Found r) _ h hn fun m' _ hm => ?_)
  refine wpAny_bind (rules_pass m' ?_ _)
  cases r with
  | none =>
    have : m'.outcome = some .failed := hm
    rw [this]
    exact wpAny_pure (hf rfl)
  | some p =>
    obtain ⟨a, b⟩ := p
    obtain ⟨h1, h2, h3⟩ := hm
    rw [h1]
    exact wpAny_pure (hs a b rfl m' h2 h3)

/-- a pattern as the program holds it -/
structure PatAt (h : Heap) (pat : Addr) (code : Array Nat) : Prop where
  at_ : ∃ src flags ft codeA items n, h.get? pat = some { cls := .type "re.Pattern", data := .fields #[src, .int flags ft, .int 0 0, .none, .none, .ref codeA, .int 0 0] } ∧
    h.get? codeA = some { cls := .type "tuple", data := .seq items n } ∧ (items.map reRawOf).map (·.toNat) = code

theorem wholeTarget {pat : Addr} {code : Array Nat} {x : PySem.Str} {t : Tok} {Q : ReTarget → Shared → Prop} (h : PatAt s.heap pat code)
    (hQ : Q { pattern := .ref pat, string := .str x t, code := code, text := x.cps, kind := 0, groups := 0, pos := 0, lim := x.cps.size } s) : wpAny M A (reWholeTarget (.ref pat) (.str x t)) Q E s := by
  obtain ⟨src, flags, ft, codeA, items, n, h1, h2, h3⟩ := h.at_
  unfold reWholeTarget
  refine wpAny_bind (wpAny_fieldsOf h1 rfl ?_)
  refine wpAny_bind (m := reTextOf (.str x t)) ?_
  refine wpAny_pure ?_
  show wpAny M A (reNoCollectionInside (.str x t) 0 >>= _) _ _ _
  refine wpAny_bind (wpAny_pure ?_)
  show wpAny M A (reRawItems (.ref codeA) >>= _) _ _ _
  refine wpAny_bind ?_
  unfold reRawItems
  refine wpAny_bind (wpAny_seqItems h2 rfl (wpAny_pure ?_))
  refine wpAny_pure ?_
  show Q { pattern := .ref pat, string := .str x t, code := (items.map reRawOf).map (·.toNat), text := x.cps, kind := 0, groups := 0, pos := 0, lim := x.cps.size } s
  rw [h3]; exact hQ
end

/-- a text out of its signs -/
abbrev S (l : List Nat) : PySem.Str := ⟨l.toArray⟩
theorem S_len (l : List Nat) : (S l).length = l.length := by simp [PySem.Str.length]
theorem S_app (a b : List Nat) : S a ++ S b = S (a ++ b) := PySem.Str.ext' (by rw [PySem.Str.cps_append]; simp)

def tot (zs : List PySem.Str) : List Nat := zs.flatMap fun z => z.cps.toList
theorem tot_join : ∀ zs : List PySem.Str, Txt.join ⟨#[]⟩ zs = S (tot zs) := by
  have key : ∀ zs : List PySem.Str, PySem.Str.join ⟨#[]⟩ zs = S (tot zs) := by
    intro zs
    induction zs with
    | nil => rfl
    | cons a r ih =>
      cases r with
      | nil => exact PySem.Str.ext' (by simp [PySem.Str.join, tot])
      | cons b r' =>
        show a ++ ⟨#[]⟩ ++ PySem.Str.join ⟨#[]⟩ (b :: r') = _
        rw [ih]
        refine PySem.Str.ext' ?_
        rw [PySem.Str.cps_append, PySem.Str.cps_append]
        simp [tot]
  intro zs
  show Builtin.Str.glued _ zs = _
  rw [StrLaws.glued_eq_join, key]
theorem tot_len (zs : List PySem.Str) : (zs.map (·.length)).sum = (tot zs).length := by
  induction zs with
  | nil => rfl
  | cons a r ih => simp only [List.map_cons, List.sum_cons, ih, tot, List.flatMap_cons, List.length_append]; simp [PySem.Str.length]
theorem strs_snoc {y : PySem.Str} {t : Tok} {vs : List Value} {ys : List PySem.Str} (h : StrsAre vs ys) : StrsAre (vs ++ [.str y t]) (ys ++ [y]) := kct_snoc h

/-- what comes of the text when each place that is found is put another -/
inductive Subs (nxt : Nat → Option (Nat × Nat)) (x : Array Nat) (repl : List Nat) : Nat → List Nat → Prop
  | stop {p : Nat} : nxt p = none → p ≤ x.size → Subs nxt x repl p (x.toList.drop p)
  | hit {p a b : Nat} {out : List Nat} : nxt p = some (a, b) → p ≤ a → a < b → b ≤ x.size → Subs nxt x repl b out → Subs nxt x repl p ((x.toList.drop p).take (a - p) ++ (repl ++ out))

theorem extract_list (x : Array Nat) (a b : Nat) : (x.extract a b).toList = (x.toList.drop a).take (b - a) := by
  exact Array.toList_extract

section
variable {prog : Program} {w : World} {A : Around} {R : Result → Shared → Prop}

theorem slice_push {β : Type} {K : Sem β} {Q : β → Shared → Prop} {E : Value → Shared → Prop} {s : Shared} {x : Array Nat} {a b P e : Nat} {ys : Array Value} (hx : x.size ≤ 1048576) (hP : s.heap.get? P = some (seqObj "list" ys e)) (hy : ys.size ≤ 4194304)
    (h : ∀ (t : Tok) (e' k : Nat), (s.heap.update P (Obj.mapSeq (·.push (.str ⟨x.extract a b⟩ t)))).get? P = some (seqObj "list" (ys.push (.str ⟨x.extract a b⟩ t)) e') →
      wpAny (model prog w) A K Q E { s with heap := s.heap.update P (Obj.mapSeq (·.push (.str ⟨x.extract a b⟩ t))), toks := k }) :
    wpAny (model prog w) A (reSlice x 0 a b) (fun v s' => wpAny (model prog w) A (do updateSeq P (·.push v); K) Q E s') E s := by
  show wpAny _ A (mkStr ⟨x.extract a b⟩) _ _ s
  refine wpAny_mkStr ?_ (by show (x.extract a b).size ≤ _; rw [sizeLine_eq, Array.size_extract]; omega)
  exact wpAny_bind (wpAny_updateSeq hP rfl (h _ _ _ (get?_update_seq hP _)) (by rw [sizeLine_eq]; omega) (by rw [sizeLine_eq, Array.size_push]; omega))

theorem subloop {pat : Addr} {code x : Array Nat} {repl : PySem.Str} {tr tx : Tok} {nxt : Nat → Option (Nat × Nat)} {bd : Nat} {whole : List Nat} {P : Addr} {s₀ : Shared}
    (hx : x.size ≤ 1048576) (hw : whole.length ≤ 8388608) (hbd : bd < 4 * 2 ^ 64)
    (hpat : PatAt s₀.heap pat code) (hP0 : s₀.heap.get? P = none)
    (search : ∀ p, p ≤ x.size → Ends (Sre.forSearch code x 0 p x.size false) bd (Found (nxt p)))
    (hR : ∀ t h' k, (∀ b o, s₀.heap.get? b = some o → h'.get? b = some o) → R (.ok (.ret (.str (S whole) t))) { s₀ with heap := h', toks := k }) :
    ∀ {p : Nat} {out : List Nat}, Subs nxt x repl.cps.toList p out → ∀ (h : Heap) (k : Nat) (ys : Array Value) (zs : List PySem.Str) (e : Nat) (n : Int),
      (∀ b o, s₀.heap.get? b = some o → h.get? b = some o) → h.get? P = some (seqObj "list" ys e) → StrsAre ys.toList zs → ys.size ≤ 2 * p → tot zs ++ out = whole →
      codeAny (model prog w) A (.builtin "re.Pattern.sub.loop" ⟨[.ref pat, .str ⟨x⟩ tx, .str repl tr, rawInt 0, rawInt 0, rawInt n, rawInt p, rawInt p, .bool false, .ref P, .bool false], []⟩) R { s₀ with heap := h, toks := k } := by
  intro p out hs
  have keeps : ∀ (h : Heap) (f : Obj → Obj), (∀ b o, s₀.heap.get? b = some o → h.get? b = some o) → ∀ b o, s₀.heap.get? b = some o → (h.update P f).get? b = some o := by
    intro h f hk b o hb
    refine (Heap.get?_update_ne _ _ _ _ fun hbP => ?_).trans (hk b o hb)
    rw [hbP, hP0] at hb; cases hb
  induction hs with
  | @stop p hnone hp =>
    intro h k ys zs e n hk hP hys hsz hwhole
    have hpat' : PatAt h pat code := by
      obtain ⟨src, flags, ft, codeA, items, n, h1, h2, h3⟩ := hpat.at_
      exact ⟨src, flags, ft, codeA, items, n, hk _ _ h1, hk _ _ h2, h3⟩
    refine codeAny_builtin entry_subloop ?_
    rw [Around.under_plainId plain_subloop _]
    show wpAny _ A.in1 (reWholeTarget (.ref pat) (.str ⟨x⟩ tx) >>= _) _ _ _
    refine wpAny_bind (wholeTarget (code := code) hpat' ?_)
    refine wpAny_bind (m := reLiteralCannotBeTurned (.str repl tr)) (wpAny_pure ?_)
    show wpAny _ A.in1 (reRunToEnd (Sre.forSearch code x 0 p x.size false) >>= _) _ _ _
    refine wpAny_bind (runToEnd (search p hp) hbd (fun a b hab => by rw [hnone] at hab; cases hab) fun _ => ?_)
    -- the end of the text, the join
    have fin : ∀ (h1 : Heap) (k1 : Nat) (ys1 : Array Value) (zs1 : List PySem.Str) (e1 : Nat), (∀ b o, s₀.heap.get? b = some o → h1.get? b = some o) → h1.get? P = some (seqObj "list" ys1 e1) → StrsAre ys1.toList zs1 → tot zs1 = whole →
        wpAny (model prog w) A.in1 (do
          let joiner ← reSlice x 0 0 0
          let text ← if ((← seqItems? (.ref P)).getD #[]).isEmpty then pure joiner else call (.builtin "str.join") [joiner, .ref P]
          ret text) (fun fin s' => match fin with | .done f => R (.ok f) s' | .again c' => c'.quiet = true ∧ codeAny (model prog w) A c' R s') (fun e s' => R (.error e) s') { s₀ with heap := h1, toks := k1 } := by
      intro h1 k1 ys1 zs1 e1 hk1 hP1 hys1 ht
      refine wpAny_bind ?_
      show wpAny _ A.in1 (mkStr ⟨x.extract 0 0⟩) _ _ _
      have e0 : x.extract 0 0 = #[] := by simp
      rw [e0]
      refine wpAny_mkStr ?_ (Nat.zero_le _)
      refine wpAny_bind (wpAny_seqItems hP1 rfl ?_)
      dsimp only [Option.getD_some]
      by_cases he : ys1.isEmpty = true
      · rw [if_pos he]
        refine wpAny_bind (wpAny_pure (wpAny_pure ?_))
        have : ys1 = #[] := by simpa using he
        subst this
        cases hys1
        have : whole = [] := ht.symm
        subst this
        exact hR _ _ _ hk1
      · rw [if_neg he]
        refine wpAny_bind (join_list (items := ys1) ⟨_, hP1, rfl, _, rfl⟩ hys1 (by rw [tot_len, ht]; show whole.length + zs1.length * 0 ≤ _; omega) fun t' k' => wpAny_pure ?_)
        rw [tot_join, ht]
        exact hR _ _ _ hk1
    dsimp only
    have hcond : ((p : Int).toNat < x.size) ↔ p < x.size := by simp
    by_cases hlt : p < x.size
    · have e1 : x.toList.drop p = (x.extract p x.size).toList := by
        rw [extract_list, List.take_of_length_le]
        simp
      rw [if_pos (hcond.mpr hlt)]
      refine wpAny_bind ?_
      rw [show ((p : Int).toNat) = p from Int.toNat_natCast p]
      refine slice_push (s := { s₀ with heap := h, toks := k }) (P := P) (e := e) (ys := ys) (a := p) (b := x.size) hx hP (by omega) fun t e' k' hP' => ?_
      refine fin _ _ _ (zs ++ [⟨x.extract p x.size⟩]) e' (keeps h _ hk) hP' ?_ ?_
      · rw [Array.toList_push]; exact strs_snoc hys
      · rw [← hwhole, e1]; simp [tot]
    · rw [if_neg (fun h => hlt (hcond.mp h))]
      refine fin _ _ ys zs e hk hP hys ?_
      rw [← hwhole, List.drop_of_length_le (by simpa using Nat.le_of_not_lt hlt), List.append_nil]
  | @hit p a b out hsome hpa hab hbs _ ih =>
    intro h k ys zs e n hk hP hys hsz hwhole
    have hpat' : PatAt h pat code := by
      obtain ⟨src, flags, ft, codeA, items, n, h1, h2, h3⟩ := hpat.at_
      exact ⟨src, flags, ft, codeA, items, n, hk _ _ h1, hk _ _ h2, h3⟩
    refine codeAny_builtin entry_subloop ?_
    rw [Around.under_plainId plain_subloop _]
    show wpAny _ A.in1 (reWholeTarget (.ref pat) (.str ⟨x⟩ tx) >>= _) _ _ _
    refine wpAny_bind (wholeTarget (code := code) hpat' ?_)
    refine wpAny_bind (m := reLiteralCannotBeTurned (.str repl tr)) (wpAny_pure ?_)
    show wpAny _ A.in1 (reRunToEnd (Sre.forSearch code x 0 p x.size false) >>= _) _ _ _
    refine wpAny_bind (runToEnd (search p (by omega)) hbd (fun a' b' hab' m' hm1 hm2 => ?_) fun hn => by rw [hsome] at hn; cases hn)
    rw [hsome] at hab'
    cases hab'
    have fin : ∀ (h1 : Heap) (k1 : Nat) (ys1 : Array Value) (zs1 : List PySem.Str) (e1 : Nat), (∀ b o, s₀.heap.get? b = some o → h1.get? b = some o) → h1.get? P = some (seqObj "list" ys1 e1) → StrsAre ys1.toList zs1 → ys1.size ≤ 2 * p + 1 → tot zs1 ++ (repl.cps.toList ++ out) = whole →
        wpAny (model prog w) A.in1 (do
          updateSeq P (·.push (.str repl tr))
          again (.builtin "re.Pattern.sub.loop" ⟨[.ref pat, .str ⟨x⟩ tx, .str repl tr, rawInt 0, rawInt 0, rawInt (n + 1), rawInt m'.handed, rawInt m'.handed, .bool (m'.handed == m'.start), .ref P, .bool false], []⟩))
          (fun fin s' => match fin with | .done f => R (.ok f) s' | .again c' => c'.quiet = true ∧ codeAny (model prog w) A c' R s') (fun e s' => R (.error e) s') { s₀ with heap := h1, toks := k1 } := by
      intro h1 k1 ys1 zs1 e1 hk1 hP1 hys1 hsz1 ht
      refine wpAny_bind (wpAny_updateSeq hP1 rfl ?_ (by rw [sizeLine_eq]; omega) (by rw [sizeLine_eq, Array.size_push]; omega))
      refine wpAny_pure ⟨plainId_quiet plain_subloop _, ?_⟩
      rw [hm1, hm2]
      have hne : (b == a) = false := by simp; omega
      rw [hne]
      refine ih _ _ (ys1.push (.str repl tr)) (zs1 ++ [repl]) _ (n + 1) (keeps h1 _ hk1) (get?_update_seq hP1 _) ?_ ?_ ?_
      · rw [Array.toList_push]; exact strs_snoc hys1
      · rw [Array.size_push]; omega
      · rw [← ht]; simp [tot]
    dsimp only
    have hcond : ((p : Int).toNat < m'.start) ↔ p < a := by rw [hm1]; simp
    by_cases hlt : p < a
    · rw [if_pos (hcond.mpr hlt)]
      refine wpAny_bind ?_
      rw [show ((p : Int).toNat) = p from Int.toNat_natCast p, show m'.start = a from hm1]
      refine slice_push (s := { s₀ with heap := h, toks := k }) (P := P) (e := e) (ys := ys) (a := p) (b := a) hx hP (by omega) fun t e' k' hP' => ?_
      refine wpAny_bind (m := pure (Value.str repl tr)) (wpAny_pure ?_)
      rw [← hm1]
      rw [← hm1] at hP'
      refine fin _ _ _ (zs ++ [⟨x.extract p m'.start⟩]) e' (keeps h _ hk) hP' ?_ ?_ ?_
      · rw [Array.toList_push]; exact strs_snoc hys
      · rw [Array.size_push]; omega
      · rw [← hwhole]
        have e1 := extract_list x p a
        rw [hm1]
        simp [tot, e1]
    · rw [if_neg (fun h => hlt (hcond.mp h))]
      refine wpAny_bind (m := pure (Value.str repl tr)) (wpAny_pure ?_)
      refine fin _ _ ys zs e hk hP hys (by omega) ?_
      have : a - p = 0 := by omega
      rw [← hwhole, this]; simp
end
end Mine

end
/-! Sub2 -/
section
open PySem PySem.W PyProof.Rows PySem.Calls
set_option maxRecDepth 100000
set_option maxHeartbeats 1000000
namespace Mine
open PySem.Builtin PySem.Builtin.Re

theorem slot_sub : Slot "re.Pattern" "sub" "re.Pattern.sub" :=
  .of (owner := "re.Pattern") (n := "sub") (by rw [typeLookup_type, builtinLookup_eq_fast]; kernel_rfl) (by decide +kernel) (by decide +kernel) (by decide +kernel)
    (by first | exact .inl (by decide +kernel) | exact .inr (by decide +kernel)) (by rw [isSubtype_type]; kernel_rfl)
theorem type_sub : typeOf (.builtin "re.Pattern.sub") = pure (.type "method_descriptor") := by show builtinType _ = _; rw [builtinType_eq_fast]; kernel_rfl
theorem args_sub (a b c : Value) : argsOk "re.Pattern.sub" ⟨[a, b, c], []⟩ := by unfold argsOk; kernel_rfl
theorem str_no_call : typeLookup (.type "str") "__call__" = pure none := by rw [typeLookup_type, builtinLookup_eq_fast]; kernel_rfl
theorem plainAttrs_pat : PlainAttrs "re.Pattern" := ⟨⟨"object.__getattribute__", by rw [typeLookup_type, builtinLookup_eq_fast]; kernel_rfl, by decide +kernel⟩, by rw [typeLookup_type, builtinLookup_eq_fast]; kernel_rfl⟩

section
variable {prog : Program} {w : World} {A : Around} {E : Value → Shared → Prop} {s : Shared}
theorem sub_rule {pat : Addr} {code x : Array Nat} {repl : PySem.Str} {tr tx : Tok} {nxt : Nat → Option (Nat × Nat)} {bd : Nat} {whole : List Nat} {Q : Value → Shared → Prop}
    (hx : x.size ≤ 1048576) (hw : whole.length ≤ 8388608) (hbd : bd < 4 * 2 ^ 64) (hrep : repl.cps.contains 92 = false)
    (hpat : PatAt s.heap pat code) (search : ∀ p, p ≤ x.size → Ends (Sre.forSearch code x 0 p x.size false) bd (Found (nxt p)))
    (hs : Subs nxt x repl.cps.toList 0 whole)
    (hQ : ∀ t h' k, (∀ b o, s.heap.get? b = some o → h'.get? b = some o) → Q (.str (S whole) t) { s with heap := h', toks := k }) :
    wpAny (model prog w) A (call (.builtin "re.Pattern.sub") [.ref pat, .str repl tr, .str ⟨x⟩ tx]) Q E s := by
  have hT : s.TypeIs (.ref pat) "re.Pattern" := by
    obtain ⟨_, _, _, _, _, _, h1, _⟩ := hpat.at_
    exact ⟨_, h1, rfl⟩
  refine wpAny_call (codeAny_call_builtin slot_sub.plain entry_sub (slot_sub.check _ _ _ _ _ _ _ _ hT (args_sub _ _ _) ?_))
  show wpAny _ A.in1 (reNamed "re.Pattern.sub" "sub" ["repl", "string", "count"] 2 [.str repl tr, .str ⟨x⟩ tx] [] >>= _) _ _ _
  refine wpAny_bind (wpAny_of_eq (a := [some (.str repl tr), some (.str ⟨x⟩ tx), none]) ?_ ?_)
  · rfl
  refine wpAny_bind (wpAny_pure ?_)
  refine wpAny_bind (wpAny_specialOf (typeIs_str _ _ _) str_no_call ?_)
  show wpAny _ A.in1 (asStr? (Value.str repl tr) >>= _) _ _ _
  refine wpAny_bind (wpAny_pure ?_)
  refine wpAny_bind (m := pure (!repl.cps.contains 92)) (wpAny_pure ?_)
  rw [hrep]
  refine wpAny_bind (m := pure (Value.str repl tr, 0)) (wpAny_pure ?_)
  refine wpAny_bind (wpAny_holding (wholeTarget hpat ?_))
  refine wpAny_bind (wpAny_newList ?_ (Nat.zero_le _))
  refine wpAny_pure ⟨plainId_quiet plain_subloop _, ?_⟩
  have hP0 : s.heap.get? s.heap.objs.size = none := by
    cases h : s.heap.get? s.heap.objs.size with
    | none => rfl
    | some o => exact absurd (Heap.lt_size h) (Nat.lt_irrefl _)
  exact subloop (s₀ := s) (P := s.heap.objs.size) hx hw hbd hpat hP0 search (fun t h' k hk => hQ t h' k hk) hs (s.heap.push (seqObj "list" #[] 0)) s.toks #[] [] 0 0
    (fun b o h => Heap.get?_push_of_some _ h) (Heap.get?_push_size _ rfl) .nil (Nat.zero_le _) rfl
end

/-! ## the two substitutions, as plain words -/
theorem getD_list (x : Array Nat) (i : Nat) : x.getD i 0 = x.toList.getD i 0 := by
  simp [Array.getD_eq_getD_getElem?, List.getD_eq_getElem?_getD]
theorem drop_cons (x : Array Nat) (i : Nat) (h : i < x.size) : x.toList.drop i = x.getD i 0 :: x.toList.drop (i + 1) := by
  rw [List.drop_eq_getElem_cons (by simpa using h)]
  congr 1
  simp [Array.getD_eq_getD_getElem?, h]
theorem drop_end (x : Array Nat) (i : Nat) (h : x.size ≤ i) : x.toList.drop i = [] := List.drop_of_length_le (by simpa using h)

/-- no line end between p and a -/
theorem find2_none (x : Array Nat) : ∀ (n p : Nat), x.size < p + n → find2 x n p = none → norm (x.toList.drop p) = x.toList.drop p
  | 0, p, hn, _ => by rw [drop_end x p (by omega), norm_nil]
  | n + 1, p, hn, h => by
    rw [find2] at h
    split at h
    · cases h
    · rename_i h1
      by_cases hp : p < x.size
      · rw [drop_cons x p hp, norm_ord _ _ (fun e => h1 ⟨hp, .inr e⟩) (fun e => h1 ⟨hp, .inl e⟩), find2_none x n (p + 1) (by omega) h]
      · rw [drop_end x p (by omega), norm_nil]
theorem find2_some (x : Array Nat) : ∀ (n p a : Nat), find2 x n p = some a → p ≤ a ∧ norm (x.toList.drop p) = (x.toList.drop p).take (a - p) ++ norm (x.toList.drop a)
  | 0, p, a, h => by cases h
  | n + 1, p, a, h => by
    rw [find2] at h
    split at h
    · cases h; simp
    · rename_i h1
      obtain ⟨h2, h3⟩ := find2_some x n (p + 1) a h
      obtain ⟨h4, _⟩ := find2_at x n (p + 1) a h
      have hp : p < x.size := by omega
      refine ⟨by omega, ?_⟩
      rw [drop_cons x p hp, norm_ord _ _ (fun e => h1 ⟨hp, .inr e⟩) (fun e => h1 ⟨hp, .inl e⟩), h3]
      have : a - p = (a - (p + 1)) + 1 := by omega
      rw [this]; rfl
theorem norm_at (x : Array Nat) (a : Nat) (ha : a < x.size) (h : x.getD a 0 = 10 ∨ x.getD a 0 = 13) : norm (x.toList.drop a) = 13 :: 10 :: norm (x.toList.drop (a + wide x a)) := by
  rw [drop_cons x a ha]
  by_cases h13 : x.getD a 0 = 13
  · rw [h13]
    by_cases h10 : a + 1 < x.size ∧ x.getD (a + 1) 0 = 10
    · have hw : wide x a = 2 := by unfold wide; rw [if_pos ⟨h13, h10⟩]
      rw [hw, drop_cons x (a + 1) h10.1, h10.2, norm_crlf]
    · have hw : wide x a = 1 := by unfold wide; rw [if_neg (fun h => h10 h.2)]
      rw [hw, norm_cr]
      intro e
      by_cases hlt : a + 1 < x.size
      · rw [drop_cons x (a + 1) hlt] at e
        exact h10 ⟨hlt, by simpa using e⟩
      · rw [drop_end x (a + 1) (by omega)] at e; simp at e
  · have h10 := h.resolve_right h13
    have hw : wide x a = 1 := by unfold wide; rw [if_neg (fun h => h13 h.1)]
    rw [hw, h10, norm_lf]
theorem wide_pos (x : Array Nat) (a : Nat) (ha : a < x.size) : 1 ≤ wide x a ∧ a + wide x a ≤ x.size := by
  unfold wide
  by_cases h : x.getD a 0 = 13 ∧ a + 1 < x.size ∧ x.getD (a + 1) 0 = 10
  · rw [if_pos h]; omega
  · rw [if_neg h]; omega
def nxt2 (x : Array Nat) (p : Nat) : Option (Nat × Nat) := (find2 x (x.size + 1 - p) p).map fun a => (a, a + wide x a)
theorem subs2 (x : Array Nat) : ∀ (n p : Nat), p + n = x.size → Subs (nxt2 x) x [13, 10] p (norm (x.toList.drop p)) := by
  intro n
  induction n using Nat.strongRecOn with
  | ind n ih =>
    intro p hp
    cases hf : find2 x (x.size + 1 - p) p with
    | none =>
      rw [find2_none x _ p (by omega) hf]
      exact .stop (by unfold nxt2; rw [hf]; rfl) (by omega)
    | some a =>
      obtain ⟨h1, h2⟩ := find2_some x _ p a hf
      obtain ⟨h3, h4⟩ := find2_at x _ p a hf
      obtain ⟨h5, h6⟩ := wide_pos x a h3
      rw [h2, norm_at x a h3 h4]
      refine .hit (b := a + wide x a) (by unfold nxt2; rw [hf]; rfl) h1 (by omega) h6 ?_
      exact ih (x.size - (a + wide x a)) (by omega) (a + wide x a) (by omega)

/-- at a line's start, as the first pattern sees it -/
def atB (x : Array Nat) (p : Nat) : Bool := p == 0 || x.getD (p - 1) 0 == 10
theorem atB_succ (x : Array Nat) (p : Nat) : atB x (p + 1) = (x.getD p 0 == 10) := by simp [atB]
theorem find1_none (x : Array Nat) : ∀ (n p : Nat), x.size ≤ p + n → find1 x n p = none → dotm (atB x p) (x.toList.drop p) = x.toList.drop p
  | 0, p, hn, _ => by rw [drop_end x p (by omega)]; rfl
  | n + 1, p, hn, h => by
    rw [find1] at h
    split at h
    · cases h
    · rename_i h1
      by_cases hp : p < x.size
      · rw [drop_cons x p hp, dotm, if_neg, ← atB_succ, find1_none x n (p + 1) (by omega) h]
        rintro ⟨h2, h3⟩
        exact h1 ⟨hp, h3, by simpa [atB] using h2⟩
      · rw [drop_end x p (by omega)]; rfl
theorem find1_some (x : Array Nat) : ∀ (n p a : Nat), find1 x n p = some a → p ≤ a ∧ a < x.size ∧ x.getD a 0 = 46 ∧ atB x a = true ∧ dotm (atB x p) (x.toList.drop p) = (x.toList.drop p).take (a - p) ++ dotm (atB x a) (x.toList.drop a)
  | 0, p, a, h => by cases h
  | n + 1, p, a, h => by
    rw [find1] at h
    split at h
    · rename_i h1; cases h; exact ⟨Nat.le_refl _, h1.1, h1.2.1, by simpa [atB] using h1.2.2, by simp⟩
    · rename_i h1
      obtain ⟨h2, h3, h4, h5, h6⟩ := find1_some x n (p + 1) a h
      have hp : p < x.size := by omega
      refine ⟨by omega, h3, h4, h5, ?_⟩
      rw [drop_cons x p hp, dotm, if_neg, ← atB_succ, h6]
      · have : a - p = (a - (p + 1)) + 1 := by omega
        rw [this]; rfl
      · rintro ⟨h7, h8⟩
        exact h1 ⟨hp, h8, by simpa [atB] using h7⟩
def nxt1 (x : Array Nat) (p : Nat) : Option (Nat × Nat) := (find1 x (x.size - p) p).map fun a => (a, a + 1)
theorem subs1 (x : Array Nat) : ∀ (n p : Nat), p + n = x.size → Subs (nxt1 x) x [46, 46] p (dotm (atB x p) (x.toList.drop p)) := by
  intro n
  induction n using Nat.strongRecOn with
  | ind n ih =>
    intro p hp
    cases hf : find1 x (x.size - p) p with
    | none =>
      rw [find1_none x _ p (by omega) hf]
      exact .stop (by unfold nxt1; rw [hf]; rfl) (by omega)
    | some a =>
      obtain ⟨h1, h2, h3, h4, h5⟩ := find1_some x _ p a hf
      rw [h5, drop_cons x a h2, h3, h4]
      have e : dotm true (46 :: x.toList.drop (a + 1)) = [46, 46] ++ dotm (atB x (a + 1)) (x.toList.drop (a + 1)) := by
        rw [atB_succ, h3]; simp [dotm]
      rw [e]
      refine .hit (b := a + 1) (by unfold nxt1; rw [hf]; rfl) h1 (by omega) (by omega) ?_
      exact ih (x.size - (a + 1)) (by omega) (a + 1) (by omega)

section
variable {prog : Program} {w : World} {A : Around} {E : Value → Shared → Prop} {s : Shared}
theorem sub2_rule {pat : Addr} {l : List Nat} {tr tx : Tok} {Q : Value → Shared → Prop} (hx : l.length ≤ 1048576) (hpat : PatAt s.heap pat c2)
    (hQ : ∀ t h' k, (∀ b o, s.heap.get? b = some o → h'.get? b = some o) → Q (.str (S (norm l)) t) { s with heap := h', toks := k }) :
    wpAny (model prog w) A (call (.builtin "re.Pattern.sub") [.ref pat, .str ⟨#[13, 10]⟩ tr, .str (S l) tx]) Q E s := by
  have hn : ∀ m : List Nat, (norm m).length ≤ 2 * m.length := by
    refine q_ind ?_ ?_ ?_ ?_ ?_
    · simp [norm_nil]
    · intro r h _; rw [norm_crlf]; simp only [List.length_cons]; omega
    · intro r h; rw [norm_lf]; simp only [List.length_cons]; omega
    · intro r h0 h; rw [norm_cr r h0]; simp only [List.length_cons]; omega
    · intro c r h1 h2 h; rw [norm_ord c r h1 h2]; simp only [List.length_cons]; omega
  have hs := subs2 l.toArray l.length 0 (by simp)
  have h1 := hn l
  exact sub_rule (code := c2) (nxt := nxt2 l.toArray) (bd := 30) (whole := norm l) (by simpa using hx) (by omega) (by decide) (by decide +kernel) hpat (fun p hp => search2 _ p false hp) (by simpa using hs) hQ
theorem sub1_rule {pat : Addr} {l : List Nat} {tr tx : Tok} {Q : Value → Shared → Prop} (hx : l.length ≤ 1048576) (hpat : PatAt s.heap pat c1)
    (hQ : ∀ t h' k, (∀ b o, s.heap.get? b = some o → h'.get? b = some o) → Q (.str (S (dotm true l)) t) { s with heap := h', toks := k }) :
    wpAny (model prog w) A (call (.builtin "re.Pattern.sub") [.ref pat, .str ⟨#[46, 46]⟩ tr, .str (S l) tx]) Q E s := by
  have hn : ∀ (m : List Nat) (b : Bool), (dotm b m).length ≤ 2 * m.length := by
    intro m
    induction m with
    | nil => intro b; simp [dotm]
    | cons c m ih => intro b; rw [dotm]; split <;> simp only [List.length_cons] <;> have := ih false <;> have := ih (c == 10) <;> omega
  have hs := subs1 l.toArray l.length 0 (by simp)
  have h1 := hn l true
  have e0 : atB l.toArray 0 = true := rfl
  rw [e0] at hs
  exact sub_rule (code := c1) (nxt := nxt1 l.toArray) (bd := 6 * (l.toArray.size + 2)) (whole := dotm true l) (by simpa using hx) (by omega) (by simp; omega) (by decide +kernel) hpat (fun p hp => search1 _ p false hp) (by simpa using hs) hQ
end
end Mine

end
/-! F1 -/
section
open PySem PySem.W PyProof.Rows
set_option maxRecDepth 100000
set_option maxHeartbeats 8000000
namespace Mine

/-- a call of the def at f, from any def's frame -/
abbrev Con (f : Addr) (du uu : Nat) (w : World) (p : Program) (loose : List PySem.Str) (mean : ExcName → Option Value) (mg mb : PySem.Str → Option Value) (news : List (Addr × Obj)) (vs : List Value)
    (Ret : Heap → Addr → (PySem.Str → Option Value) → Shared → (Value → Shared → Prop) → Prop) : Prop :=
  ∀ (dp un : Nat) (gd : Option (List Code)) (cn : PySem.Str) (cs : Scope) (a : Addr) (ccd : Value) (cl : List (PySem.Str × Addr)) (outer : List Env) (A₀ : Around) (base h₀ : Heap) (L : Addr) (m : PySem.Str → Option Value) (s : Shared)
    (Q E : Value → Shared → Prop),
    Below A₀ base outer h₀ → Fr h₀ L s.heap m → (hd.heap_39 w.params).In h₀ → News h₀ L s.heap news → Top p loose mean mg mb h₀ → cs.kind = .function →
    dp + du < recursionLimit → un + uu < cLine → Ret h₀ L m s Q →
    wpAny (model PySem.Challenge.rw_sc0024_01.row.prog w) (ktrTop dp un gd cn cs L a ccd cl outer) (call (.ref f) vs) Q E s
theorem Con.use {f : Addr} {du uu : Nat} {w : World} {p : Program} {loose : List PySem.Str} {mean : ExcName → Option Value} {mg mb : PySem.Str → Option Value} {news : List (Addr × Obj)} {vs : List Value}
    {Ret : Heap → Addr → (PySem.Str → Option Value) → Shared → (Value → Shared → Prop) → Prop} (C : Con f du uu w p loose mean mg mb news vs Ret)
    {dp un : Nat} {gd : Option (List Code)} {cn : PySem.Str} {cs : Scope} {a : Addr} {ccd : Value} {cl : List (PySem.Str × Addr)} {outer : List Env} {A₀ : Around} {base h₀ : Heap} {L : Addr} {m : PySem.Str → Option Value} {s : Shared}
    {Q E : Value → Shared → Prop} (B : Below A₀ base outer h₀) (F : Fr h₀ L s.heap m) (X : (hd.heap_39 w.params).In h₀) (N : News h₀ L s.heap news) (T : Top p loose mean mg mb h₀) (hk : cs.kind = .function)
    (hd : dp + du < recursionLimit) (hu : un + uu < cLine) (ret : Ret h₀ L m s Q) :
    wpAny (model PySem.Challenge.rw_sc0024_01.row.prog w) (ktrTop dp un gd cn cs L a ccd cl outer) (call (.ref f) vs) Q E s := C _ _ _ _ _ _ _ _ _ _ _ _ _ _ _ _ _ B F X N T hk hd hu ret

/-- what comes back: a text -/
abbrev RetStr (news : List (Addr × Obj)) (z : List Nat) (h₀ : Heap) (L : Addr) (m : PySem.Str → Option Value) (s : Shared) (Q : Value → Shared → Prop) : Prop :=
  ∀ (t' : Tok) (h' : Heap) (tk' : Nat), Fr h₀ L h' m → News h₀ L h' news → Q (.str (S z) t') { s with heap := h', toks := tk' }
/-- a bool -/
abbrev RetBool (news : List (Addr × Obj)) (b : Bool) (h₀ : Heap) (L : Addr) (m : PySem.Str → Option Value) (s : Shared) (Q : Value → Shared → Prop) : Prop :=
  ∀ (h' : Heap) (tk' : Nat), Fr h₀ L h' m → News h₀ L h' news → Q (.bool b) { s with heap := h', toks := tk' }
/-- a new list of texts -/
abbrev RetList (news : List (Addr × Obj)) (zs : List (List Nat)) (h₀ : Heap) (L : Addr) (m : PySem.Str → Option Value) (s : Shared) (Q : Value → Shared → Prop) : Prop :=
  ∀ (D : Addr) (vs : List Value) (c : Nat) (h' : Heap) (tk' : Nat), Fr h₀ L h' m → News h₀ L h' ((D, listOf vs.toArray c) :: news) → StrsAre vs (zs.map S) → (∀ p ∈ news, p.1 < D) → Q (.ref D) { s with heap := h', toks := tk' }

theorem con_of {f : Addr} {du uu : Nat} {w : World} {p : Program} {loose : List PySem.Str} {mean : ExcName → Option Value} {mg mb : PySem.Str → Option Value} {news : List (Addr × Obj)} {vs : List Value}
    {Ret : Heap → Addr → (PySem.Str → Option Value) → Shared → (Value → Shared → Prop) → Prop}
    {name qual : PySem.Str} {params : Arguments} {body : List Stmt} {scope : Scope} {dV kV doc pm cdv ct oc : Value} {an od : Option Addr} {osl : Array (Option Value)} (binds : List (PySem.Str × Value))
    (ho : (hd.heap_39 w.params).lookup f = some ⟨oc, od, .func (fnOf name qual params body scope dV kV doc pm an cdv ct), osl⟩) (hcd : codeIn (hd.heap_39 w.params) cdv qual = true)
    (hbind : ∀ s, BindsTo s (fnOf name qual params body scope dV kV doc pm an cdv ct) ⟨vs, []⟩ binds) (hloc : ∀ y ∈ binds, scope.names.lookup y.1 = some .local) (hdu : 1 ≤ du)
    (h : ∀ (dp un : Nat) (gd : Option (List Code)) (cn : PySem.Str) (cs : Scope) (a : Addr) (ccd : Value) (cl : List (PySem.Str × Addr)) (outer : List Env) (base h₀ : Heap) (L : Addr) (m : PySem.Str → Option Value) (s : Shared)
      (Q E : Value → Shared → Prop), dp + du < recursionLimit → un + uu < cLine → cs.kind = .function → Ret h₀ L m s Q →
      ∀ (g : Heap) (L' : Addr) (h₁ : Heap) (tk : Nat), Fr h₀ L g m → Fr g L' h₁ (fun y => binds.reverse.lookup y) → News g L' h₁ news → Below (ktrTop dp un gd cn cs L a ccd cl outer) base (envX cn cs L a ccd cl :: outer) g → (hd.heap_39 w.params).In g → Top p loose mean mg mb g →
      wpAny (model PySem.Challenge.rw_sc0024_01.row.prog w) ((ktrTop dp un gd cn cs L a ccd cl outer).deeper (envOf qual scope L' f cdv)) (execs body (envOf qual scope L' f cdv))
        (fun fl s' => LeaveK h₀ L m g (fun r s' => match r with | .ok (.ret v) => Q v s' | .ok _ => False | .error e => E e s') (match fl with | .ret v => v | _ => .none) s')
        (fun e s' => wpAny (model PySem.Challenge.rw_sc0024_01.row.prog w) ((ktrTop dp un gd cn cs L a ccd cl outer).deeper (envOf qual scope L' f cdv)) (leaving (envOf qual scope L' f cdv) e) (fun _ s'' => E e s'') (fun e' s'' => E e' s'') s')
        { s with heap := h₁, toks := tk })
    (hco : scope.isCoroutine = false) (hgen : scope.isGenerator = false) (hk : scope.kind = .function) (hcell : ∀ x ∈ scope.names, x.2 ≠ .cell) : Con f du uu w p loose mean mg mb news vs Ret := by
  intro dp un gd cn cs a ccd cl outer A₀ base h₀ L m s Q E B F X N T hkc hd hu ret
  refine wpAny_call (code_def B F X N T rfl rfl hkc ho hcd (by show dp < _; omega) (hbind s) hloc (fun g L' h₁ FG F' N' B' X' T' => ?_) hco hgen hk hcell)
  exact h dp un gd cn cs a ccd cl outer base h₀ L m s Q E hd hu hkc ret g L' h₁ _ FG F' N' B' X' T'

section
variable {M : Model} {A : Around} {E : Value → Shared → Prop} {s : Shared} {h₀ : Heap} {L : Addr} {m : PySem.Str → Option Value} {K : Frag}
theorem getMethod_pat {pat : Addr} {o : Obj} {pl : Sem Bool} {Q : Value × List Value → Shared → Prop} (F : Fr h₀ L s.heap m) (X : K.In h₀) (e : K.lookup pat = some o) (hc : o.cls = .type "re.Pattern") (hd : o.dict = none)
    (h : Q (.builtin "re.Pattern.sub", [.ref pat]) s) : wpAny M A (getMethod (.ref pat) "sub" pl) Q E s := by
  have ho := F.keep _ _ (X _ _ e)
  exact getMethod_builtin (T := "re.Pattern") ⟨o, ho, hc⟩ plainAttrs_pat slot_sub type_sub (fun a ha => by cases ha; exact ⟨o, ho, hd⟩) h
end
theorem pat1 {w : World} {h : Heap} (X : (hd.heap_39 w.params).In h) : PatAt h 85 c1 :=
  ⟨_, _, _, _, _, _, X 85 _ rfl, X 84 _ rfl, by decide +kernel⟩
theorem pat2 {w : World} {h : Heap} (X : (hd.heap_39 w.params).In h) : PatAt h 90 c2 :=
  ⟨_, _, _, _, _, _, X 90 _ rfl, X 89 _ rfl, by decide +kernel⟩
theorem lit_crlf : PySem.Str.ofString "\r\n" = ⟨#[13, 10]⟩ := by decide +kernel
theorem lit_dd : PySem.Str.ofString ".." = ⟨#[46, 46]⟩ := by decide +kernel

theorem norm_len : ∀ m : List Nat, (norm m).length ≤ 2 * m.length := by
  refine q_ind ?_ ?_ ?_ ?_ ?_
  · simp [norm_nil]
  · intro r h _; rw [norm_crlf]; simp only [List.length_cons]; omega
  · intro r h; rw [norm_lf]; simp only [List.length_cons]; omega
  · intro r h0 h; rw [norm_cr r h0]; simp only [List.length_cons]; omega
  · intro c r h1 h2 h; rw [norm_ord c r h1 h2]; simp only [List.length_cons]; omega
section
variable {prog : Program} {w w' : World} {A : Around} {E : Value → Shared → Prop} {s : Shared} {h₀ : Heap} {L : Addr} {m : PySem.Str → Option Value} {news : List (Addr × Obj)} {l : List Nat} {tr tx : Tok} {Q : Value → Shared → Prop}
theorem sub2_K (F : Fr h₀ L s.heap m) (N : News h₀ L s.heap news) (X : (hd.heap_39 w'.params).In h₀) (hx : l.length ≤ 1048576)
    (hQ : ∀ t h' k, Fr h₀ L h' m → News h₀ L h' news → (norm l).length ≤ 2 * l.length → Q (.str (S (norm l)) t) { s with heap := h', toks := k }) :
    wpAny (model prog w) A (call (.builtin "re.Pattern.sub") [.ref 90, .str (PySem.Str.ofString "\r\n") tr, .str (S l) tx]) Q E s := by
  rw [lit_crlf]
  exact sub2_rule hx (pat2 (w := w') (Frag.In.keeps X F.keep)) fun t h' k hk => hQ t h' k (F.kept hk) (N.grown hk) (norm_len l)
theorem sub1_K (F : Fr h₀ L s.heap m) (N : News h₀ L s.heap news) (X : (hd.heap_39 w'.params).In h₀) (hx : l.length ≤ 1048576)
    (hQ : ∀ t h' k, Fr h₀ L h' m → News h₀ L h' news → Q (.str (S (dotm true l)) t) { s with heap := h', toks := k }) :
    wpAny (model prog w) A (call (.builtin "re.Pattern.sub") [.ref 85, .str (PySem.Str.ofString "..") tr, .str (S l) tx]) Q E s := by
  rw [lit_dd]
  exact sub1_rule hx (pat1 (w := w') (Frag.In.keeps X F.keep)) fun t h' k hk => hQ t h' k (F.kept hk) (N.grown hk)
end

local macro_rules | `(tactic| walk_at "getMethod ref") => `(tactic| (k_here; (with_reducible show wpAny _ _ (getMethod (Value.ref _) (PySem.Str.ofString "sub") _) _ _ _); k_dflt (refine' getMethod_pat ?k1 ?k2 ?k3 ?k4 ?k5 ?_; (case k1 => k_asm); (case k2 => k_asm); (case k3 => k_is); (case k4 => rfl); (case k5 => rfl))))
local macro_rules | `(tactic| walk_at "call builtin:re.Pattern.sub") => `(tactic| (k_here; k_dflt (first
  | (refine' sub2_K ?k1 ?k2 ?k3 ?k4 ?_; (case k1 => k_asm); (case k2 => k_asm); (case k3 => k_asm); (case k4 => omega); (intro t' h' k' F' N' ln'))
  | (refine' sub1_K ?k1 ?k2 ?k3 ?k4 ?_; (case k1 => k_asm); (case k2 => k_asm); (case k3 => k_asm); (case k4 => omega); (intro t' h' k' F' N'))); (try k_sweep)))

theorem quotedata_con (w : World) {p : Program} {loose : List PySem.Str} {mean : ExcName → Option Value} {mg mb : PySem.Str → Option Value} (news : List (Addr × Obj)) (l : List Nat) (t : Tok) (hl : l.length ≤ 100000) :
    Con 97 1 8 w p loose mean mg mb news [.str (S l) t] (RetStr news (q true l)) := by
  unfold Con
  k_fill
  refine' con_of [(PySem.Str.ofString "data", .str (S l) t)] ?ho ?hcd ?hb ?hl (by decide) ?h ?c1 ?c2 ?c3 ?c4
  case ho => exact rfl
  case hcd => exact rfl
  case hb => exact fun s => BindsTo.of_eq rfl
  case hl => exact locs rfl
  case c1 => exact rfl
  case c2 => exact rfl
  case c3 => exact rfl
  case c4 => decide
  case h =>
    intro dp un gd cn cs a ccd cl outer base h₀ L m s Q E hd hu hk ret g' L' h' tk FG' F' N' B' X' T'
    show wpAny _ _ _ _ _ _
    k_fold
    k_steps
    rw [← q_eq]
    refine' leaveK_ ?e1 ?e2 ?_
    case e1 => k_asm
    case e2 => k_asm
    intro kF kN
    exact ret _ _ _ kF kN
end Mine

end
/-! Loop -/
section
open PySem PySem.W PyProof.Rows
set_option maxRecDepth 100000
set_option maxHeartbeats 1000000
namespace Mine

def Stopped (P : Prop) : Prop := P
theorem Stopped.here {P : Prop} (h : Stopped P) : P := h

section
variable {prog : Program} {w : World} {A : Around} {E : Value → Shared → Prop} {s : Shared} {env : Env} {h₀ : Heap} {x : PySem.Str} {body : List Stmt} {Q : Flow → Shared → Prop}

/-- what a turn of a loop leaves -/
def TurnEnd {σ : Type} (h₀ : Heap) (L I : Addr) (oI : Obj) (Led : σ → List (Addr × Obj)) (ps : σ → List (PySem.Str × Value)) (x : PySem.Str) (stored : List PySem.Str) (m₀ : PySem.Str → Option Value) (P : σ → Prop) (Q : Flow → Shared → Prop) (s₁ : Shared) (f : Flow) (s₂ : Shared) : Prop :=
  match f with
  | .ret v => Q (.ret v) s₂
  | .brk => Q .next s₂
  | _ => ∃ (c : σ) (h' : Heap) (tk : Nat) (m' : PySem.Str → Option Value), s₂ = { s₁ with heap := h', toks := tk } ∧ Fr h₀ L h' m' ∧ News h₀ L h' ((I, oI) :: Led c) ∧ (∀ p ∈ Led c, p.1 ≠ I) ∧
      (∀ p ∈ ps c, m' p.1 = some p.2) ∧ (∀ z, z ≠ x → (∀ p ∈ ps c, z ≠ p.1) → stored.contains z = false → m' z = m₀ z) ∧ P c

theorem TurnEnd.next {σ : Type} {L I : Addr} {oI : Obj} {Led : σ → List (Addr × Obj)} {ps : σ → List (PySem.Str × Value)} {stored : List PySem.Str} {m₀ m' : PySem.Str → Option Value} {P : σ → Prop} {s₁ : Shared} {h' : Heap} {tk : Nat} (c : σ)
    (F : Fr h₀ L h' m') {led : List (Addr × Obj)} (N : News h₀ L h' led) (hI : (I, oI) ∈ led) (hs : ∀ p ∈ Led c, p ∈ led) (hne : ∀ p ∈ Led c, p.1 ≠ I) (hk : ∀ p ∈ ps c, m' p.1 = some p.2)
    (hm : ∀ z, z ≠ x → (∀ p ∈ ps c, z ≠ p.1) → stored.contains z = false → m' z = m₀ z) (hP : P c) : TurnEnd h₀ L I oI Led ps x stored m₀ P Q s₁ .next { s₁ with heap := h', toks := tk } :=
  ⟨c, h', tk, m', rfl, F, (fun p hp => (List.mem_cons.mp hp).elim (fun e => by rw [e]; exact N _ hI) fun h => N p (hs p h)), hne, hk, hm, hP⟩

theorem wl_gen {σ : Type} {I : Addr} {fp : List Addr} {n : Nat} {P : Nat → Value → Prop} {St : Nat → Heap → Prop} {m₀ : PySem.Str → Option Value} (Led : σ → List (Addr × Obj)) (ps : σ → List (PySem.Str × Value)) (stored : List PySem.Str) (R : Nat → σ → Prop) (c₀ : σ)
    (W : Walks prog w A I fp [I] n P St) (alive : ∀ i h, St i h → ∃ o, h.get? I = some o) (hLf : env.locals ∉ fp) (hI0 : h₀.get? I = none)
    (hfp : ∀ b ∈ fp, b = I ∨ (∃ o, h₀.get? b = some o) ∨ ∃ o, ∀ i c, R i c → (b, o) ∈ Led c)
    (hst : St 0 s.heap) (F : Fr h₀ env.locals s.heap m₀) (N : News h₀ env.locals s.heap (Led c₀)) (hnI : ∀ p ∈ Led c₀, p.1 ≠ I) (hk : ∀ p ∈ ps c₀, m₀ p.1 = some p.2) (hp : R 0 c₀)
    (turn : ∀ (c : σ) i v (u : PySem.Str → Option Value) h tk oI, i < n → P i v → R i c → (∀ p ∈ Led c, p.1 ≠ I) →
      Fr h₀ env.locals h (fun y => if y = x then some v else kstB (fun z => if stored.contains z then u z else m₀ z) (ps c) y) → News h₀ env.locals h ((I, oI) :: Led c) →
      wpAny (model prog w) A (execs body env) (TurnEnd h₀ env.locals I oI Led ps x stored m₀ (R (i + 1)) Q { s with heap := h, toks := tk }) E { s with heap := h, toks := tk })
    (done : ∀ (c : σ) (u : PySem.Str → Option Value) h tk, R n c → Fr h₀ env.locals h (fun y => if y = x then u y else kstB (fun z => if stored.contains z then u z else m₀ z) (ps c) y) → News h₀ env.locals h (Led c) →
      Q .next { s with heap := h, toks := tk }) :
    LoopAtV prog w A h₀ env x body Q E (.ref I) s := by
  let J : Nat → (PySem.Str → Option Value) → List (Addr × Obj) → Prop := fun i m nx => ∃ c : σ, nx = Led c ∧ R i c ∧ (∀ p ∈ ps c, m p.1 = some p.2) ∧ (∀ z, z ≠ x → (∀ p ∈ ps c, z ≠ p.1) → stored.contains z = false → m z = m₀ z)
  refine ⟨I, fp, [I], n, P, St, m₀, Led c₀, J, rfl, W, hLf, ?_, ?_, hst, F, N, ⟨c₀, rfl, hp, hk, fun _ _ _ _ => rfl⟩, ?_, ?_⟩
  · intro b hb; rw [List.mem_singleton.mp hb]; exact hI0
  · intro p hp hb; exact hnI p hp (List.mem_singleton.mp hb)
  · rintro i v m₁ news₁ s₁ own ⟨hh', tk', rfl⟩ hin hP ⟨c, rfl, hR, h1, h2⟩ hoff hown hget hfull hst₁ F₁ N₁
    obtain ⟨oI, hoI⟩ := alive _ _ hst₁
    have hIfp : I ∈ fp := W.sub I (by simp)
    have hIo : (I, oI) ∈ own := hfull I hIfp hI0 oI hoI
    have hne : ∀ p ∈ Led c, p.1 ≠ I := fun p hp e => hoff p hp (by rw [e]; simp)
    have N₂ : News h₀ env.locals hh' ((I, oI) :: Led c) := fun p hp => by
      rcases List.mem_cons.mp hp with rfl | hp
      · exact N₁ _ (List.mem_append_left _ hIo)
      · exact N₁ p (List.mem_append_right _ hp)
    refine wpAny_mono (turn c i v m₁ hh' tk' oI hin hP hR hne (kst_fr h1 h2 F₁) N₂) (fun f s₂ p => ?_) fun _ _ e => e
    have fin : (∃ (c : σ) (h' : Heap) (tk : Nat) (m' : PySem.Str → Option Value), s₂ = { s with heap := h', toks := tk } ∧ Fr h₀ env.locals h' m' ∧ News h₀ env.locals h' ((I, oI) :: Led c) ∧ (∀ p ∈ Led c, p.1 ≠ I) ∧
      (∀ p ∈ ps c, m' p.1 = some p.2) ∧ (∀ z, z ≠ x → (∀ p ∈ ps c, z ≠ p.1) → stored.contains z = false → m' z = m₀ z) ∧ R (i + 1) c) → LoopStepU h₀ env.locals [I] own (J (i + 1)) { s with heap := hh', toks := tk' } .next s₂ := by
      rintro ⟨c', h', tk, m', e, F', N', hn', hk', hm', hR'⟩
      refine ⟨rfl, h', tk, m', Led c', e, F', fun p hp => ?_, fun p hp hb => hn' p hp (List.mem_singleton.mp hb), c', rfl, hR', hk', hm'⟩
      rcases List.mem_append.mp hp with h | h
      · have hpg := hget p h
        rcases hfp p.1 (hown p h) with hb | hb | ⟨o, hb⟩
        · have e1 : hh'.get? p.1 = some p.2 := hpg
          rw [hb] at e1
          rw [hoI] at e1
          have e2 : p = (I, oI) := Prod.ext hb (Option.some.inj e1).symm
          rw [e2]; exact N' _ (.head _)
        · obtain ⟨o, ho⟩ := hb
          have := (N₁ p (List.mem_append_left _ h)).2.2
          rw [ho] at this; cases this
        · have e1 : hh'.get? p.1 = some p.2 := hpg
          have e2 := (N₁ _ (List.mem_append_right _ (hb i c hR))).1
          rw [e1] at e2
          have e3 : p = (p.1, o) := Prod.ext rfl (Option.some.inj e2)
          rw [e3]; exact N' _ (.tail _ (hb (i + 1) c' hR'))
      · exact N' p (.tail _ h)
    cases f with
    | ret v => exact .ret p
    | brk => exact .brk p
    | next => exact .next (fin p)
    | cont => exact .cont (fin p)
  · rintro h' tk m' news' F' N' _ ⟨c, rfl, hR, h1, h2⟩
    exact done c m' h' tk hR (kst_frOut h1 h2 F') N'

/-- for x in a list of the ledger -/
theorem wl_list {σ : Type} {l : Addr} {vs : List Value} {nn : Nat} {m₀ : PySem.Str → Option Value} (Led : σ → List (Addr × Obj)) (ps : σ → List (PySem.Str × Value)) (stored : List PySem.Str) (R : Nat → σ → Prop) (c₀ : σ)
    (hh : A.handled = none) (hl : ∀ i c, R i c → (l, listOf vs.toArray nn) ∈ Led c)
    (F : Fr h₀ env.locals s.heap m₀) (N : News h₀ env.locals s.heap (Led c₀)) (hk : ∀ p ∈ ps c₀, m₀ p.1 = some p.2) (hp : R 0 c₀)
    (turn : ∀ (c : σ) i v (u : PySem.Str → Option Value) h tk I oI, vs[i]? = some v → R i c → (∀ p ∈ Led c, p.1 ≠ I) →
      Fr h₀ env.locals h (fun y => if y = x then some v else kstB (fun z => if stored.contains z then u z else m₀ z) (ps c) y) → News h₀ env.locals h ((I, oI) :: Led c) →
      wpAny (model prog w) A (execs body env) (TurnEnd h₀ env.locals I oI Led ps x stored m₀ (R (i + 1)) Q { s with heap := h, toks := tk }) E { s with heap := h, toks := tk })
    (done : ∀ (c : σ) (u : PySem.Str → Option Value) h tk, R vs.length c → Fr h₀ env.locals h (fun y => if y = x then u y else kstB (fun z => if stored.contains z then u z else m₀ z) (ps c) y) → News h₀ env.locals h (Led c) →
      Q .next { s with heap := h, toks := tk }) :
    wpAny (model prog w) A (pyIter (.ref l)) (fun it s₂ => LoopAtV prog w A h₀ env x body Q E it s₂) E s := by
  have hm := hl 0 c₀ hp
  have hol : s.heap.get? l = some (listOf vs.toArray nn) := (N _ hm).1
  have hls : s.heap.IsList l vs.toArray := ⟨_, hol, rfl, nn, rfl⟩
  have hne : l ≠ s.heap.objs.size := Nat.ne_of_lt (Heap.lt_size hol)
  refine wpAny_pyIter_list hls ?_
  have W := Walks.list (prog := prog) (w := w) hh s.heap.objs.size l hne vs.toArray
  rw [List.size_toArray] at W
  refine wl_gen (I := s.heap.objs.size) Led ps stored R c₀ W ?_ ?_ ?_ ?_ ⟨⟨_, Heap.get?_push_size _ rfl, rfl, rfl⟩, hls.at fun o e => Heap.get?_push_of_some _ e⟩ (F.push _) (fun p hp => ⟨Heap.get?_push_of_some _ (N p hp).1, (N p hp).2⟩) ?_ hk hp ?_ done
  · rintro i h ⟨⟨o, ho, _⟩, _⟩; exact ⟨o, ho⟩
  · intro hm'
    rcases List.mem_cons.mp hm' with e | hm'
    · exact absurd F.ns.lt (e ▸ Nat.lt_irrefl _)
    · exact (N _ hm).2.1 ((List.mem_singleton.mp hm').symm)
  · exact next_is_new F
  · intro b hb
    rcases List.mem_cons.mp hb with rfl | hb
    · exact .inl rfl
    · rw [List.mem_singleton.mp hb]; exact .inr (.inr ⟨_, hl⟩)
  · exact fun p hp => Nat.ne_of_lt (Heap.lt_size (N p hp).1)
  · intro c i v u h tk oI _ hP hR hne' F' N'
    exact turn c i v u h tk _ oI (by simpa using hP) hR hne' F' N'

/-- for x in range(a, b) -/
theorem wl_range {σ : Type} {r : Addr} {a₀ b₀ : Int} {t₀ u₀ v₀ : Tok} {n : Nat} {m₀ : PySem.Str → Option Value} (Led : σ → List (Addr × Obj)) (ps : σ → List (PySem.Str × Value)) (stored : List PySem.Str) (R : Nat → σ → Prop) (c₀ : σ)
    (hh : A.handled = none) (hr : IsRange s.heap r a₀ b₀ 1 t₀ u₀ v₀) (hsmall : Builtin.Range.small a₀ b₀ 1 = true) (hn : Builtin.Range.rangeSize a₀ b₀ 1 = (n : Int))
    (F : Fr h₀ env.locals s.heap m₀) (N : News h₀ env.locals s.heap (Led c₀)) (hk : ∀ p ∈ ps c₀, m₀ p.1 = some p.2) (hp : R 0 c₀)
    (turn : ∀ (c : σ) i t (u : PySem.Str → Option Value) h tk I oI, i < n → R i c → (∀ p ∈ Led c, p.1 ≠ I) →
      Fr h₀ env.locals h (fun y => if y = x then some (.int (a₀ + (i : Int)) t) else kstB (fun z => if stored.contains z then u z else m₀ z) (ps c) y) → News h₀ env.locals h ((I, oI) :: Led c) →
      wpAny (model prog w) A (execs body env) (TurnEnd h₀ env.locals I oI Led ps x stored m₀ (R (i + 1)) Q { s with heap := h, toks := tk }) E { s with heap := h, toks := tk })
    (done : ∀ (c : σ) (u : PySem.Str → Option Value) h tk, R n c → Fr h₀ env.locals h (fun y => if y = x then u y else kstB (fun z => if stored.contains z then u z else m₀ z) (ps c) y) → News h₀ env.locals h (Led c) →
      Q .next { s with heap := h, toks := tk }) :
    wpAny (model prog w) A (pyIter (.ref r)) (fun it s₂ => LoopAtV prog w A h₀ env x body Q E it s₂) E s := by
  refine wpAny_pyIter_range hr hsmall ?_
  have W : Walks prog w A s.heap.objs.size [s.heap.objs.size] [s.heap.objs.size] n (fun i v => i < n ∧ ∃ t, v = .int (a₀ + i * 1) t)
      (fun i h => IsRangeIter h s.heap.objs.size (a₀ + (i : Nat) * 1) ((n : Int) - (i : Nat)) 1) := (Walks.range hh _ a₀ 1 n).bound
  refine wl_gen Led ps stored R c₀ W ?_ ?_ ?_ ?_ (by show IsRangeIter _ _ _ _ _; rw [hn]; simpa using Heap.get?_push_size _ rfl) (F.push _) (fun p hp => ⟨Heap.get?_push_of_some _ (N p hp).1, (N p hp).2⟩) ?_ hk hp ?_ done
  · intro i h hi; exact ⟨_, hi⟩
  · intro hm
    exact absurd F.ns.lt ((List.mem_singleton.mp hm) ▸ Nat.lt_irrefl _)
  · exact next_is_new F
  · intro b hb; exact .inl (List.mem_singleton.mp hb)
  · exact fun p hp => Nat.ne_of_lt (Heap.lt_size (N p hp).1)
  · rintro c i v u h tk oI hi ⟨_, t, rfl⟩ hR hne' F' N'
    have e1 : a₀ + (i : Int) * 1 = a₀ + (i : Int) := by omega
    rw [e1] at F'
    exact turn c i t u h tk _ oI hi hR hne' F' N'

/-- for x in a tuple of the ledger -/
theorem wl_tuple {σ : Type} {l : Addr} {vs : List Value} {m₀ : PySem.Str → Option Value} (Led : σ → List (Addr × Obj)) (ps : σ → List (PySem.Str × Value)) (stored : List PySem.Str) (R : Nat → σ → Prop) (c₀ : σ)
    (hh : A.handled = none) (hl : ∀ i c, R i c → (l, ({ cls := .type "tuple", data := .seq vs.toArray } : Obj)) ∈ Led c)
    (F : Fr h₀ env.locals s.heap m₀) (N : News h₀ env.locals s.heap (Led c₀)) (hk : ∀ p ∈ ps c₀, m₀ p.1 = some p.2) (hp : R 0 c₀)
    (turn : ∀ (c : σ) i v (u : PySem.Str → Option Value) h tk I oI, vs[i]? = some v → R i c → (∀ p ∈ Led c, p.1 ≠ I) →
      Fr h₀ env.locals h (fun y => if y = x then some v else kstB (fun z => if stored.contains z then u z else m₀ z) (ps c) y) → News h₀ env.locals h ((I, oI) :: Led c) →
      wpAny (model prog w) A (execs body env) (TurnEnd h₀ env.locals I oI Led ps x stored m₀ (R (i + 1)) Q { s with heap := h, toks := tk }) E { s with heap := h, toks := tk })
    (done : ∀ (c : σ) (u : PySem.Str → Option Value) h tk, R vs.length c → Fr h₀ env.locals h (fun y => if y = x then u y else kstB (fun z => if stored.contains z then u z else m₀ z) (ps c) y) → News h₀ env.locals h (Led c) →
      Q .next { s with heap := h, toks := tk }) :
    wpAny (model prog w) A (pyIter (.ref l)) (fun it s₂ => LoopAtV prog w A h₀ env x body Q E it s₂) E s := by
  have hm := hl 0 c₀ hp
  have hol : s.heap.get? l = some ({ cls := .type "tuple", data := .seq vs.toArray } : Obj) := (N _ hm).1
  have hls : s.heap.IsTuple l vs.toArray := ⟨_, hol, rfl, 0, rfl⟩
  have hne : l ≠ s.heap.objs.size := Nat.ne_of_lt (Heap.lt_size hol)
  refine wpAny_pyIter_tuple hls ?_
  have W := Walks.tuple (prog := prog) (w := w) hh s.heap.objs.size l hne vs.toArray
  rw [List.size_toArray] at W
  refine wl_gen (I := s.heap.objs.size) Led ps stored R c₀ W ?_ ?_ ?_ ?_ ⟨⟨_, Heap.get?_push_size _ rfl, rfl, rfl⟩, hls.at fun o e => Heap.get?_push_of_some _ e⟩ (F.push _) (fun p hp => ⟨Heap.get?_push_of_some _ (N p hp).1, (N p hp).2⟩) ?_ hk hp ?_ done
  · rintro i h ⟨⟨o, ho, _⟩, _⟩; exact ⟨o, ho⟩
  · intro hm'
    rcases List.mem_cons.mp hm' with e | hm'
    · exact absurd F.ns.lt (e ▸ Nat.lt_irrefl _)
    · exact (N _ hm).2.1 ((List.mem_singleton.mp hm').symm)
  · exact next_is_new F
  · intro b hb
    rcases List.mem_cons.mp hb with rfl | hb
    · exact .inl rfl
    · rw [List.mem_singleton.mp hb]; exact .inr (.inr ⟨_, hl⟩)
  · exact fun p hp => Nat.ne_of_lt (Heap.lt_size (N p hp).1)
  · intro c i v u h tk oI _ hP hR hne' F' N'
    exact turn c i v u h tk _ oI (by simpa using hP) hR hne' F' N'
end
end Mine

end
/-! F2 -/
section
open PySem PySem.W PyProof.Rows
set_option maxRecDepth 100000
set_option maxHeartbeats 8000000
namespace Mine
theorem rsize (n : Nat) : Builtin.Range.rangeSize 0 (n : Int) 1 = (n : Int) := by rw [rangeSize_nat]; simp
theorem rsmall (a n : Nat) (ha : a ≤ 1000000) (hn : n ≤ 1000000) : Builtin.Range.small (a : Int) (n : Int) 1 = true := small_one (by omega) (by omega) (by omega) (by omega)
theorem Qn_le {n : Nat} {l : List Nat} (hn : n ≤ 3) (hl : l.length ≤ 1000) : (Qn n l).length ≤ 8000 := by
  have h1 := Qn_len n l
  have h2 : 2 ^ n ≤ 2 ^ 3 := Nat.pow_le_pow_right (by decide) hn
  have h3 : 2 ^ n * l.length ≤ 2 ^ 3 * 1000 := Nat.mul_le_mul h2 hl
  omega

theorem lit_l : PySem.Str.ofString "\n" = S [10] := by decide +kernel
theorem lit_r : PySem.Str.ofString "\r" = S [13] := by decide +kernel
theorem lit_rl : PySem.Str.ofString "\r\n" = S [13, 10] := by decide +kernel
theorem lit_d : PySem.Str.ofString "." = S [46] := by decide +kernel
theorem lit_d2 : PySem.Str.ofString ".." = S [46, 46] := by decide +kernel
theorem lit_e : PySem.Str.ofString "" = S [] := by decide +kernel
theorem lit_sl : PySem.Str.ofString "/" = S [47] := by decide +kernel
theorem lit_z : PySem.Str.ofString "z" = S [122] := by decide +kernel
theorem lit_st : PySem.Str.ofString "*" = S [42] := by decide +kernel
section
variable {prog : Program} {w : World} {A : Around} {E : Value → Shared → Prop} {s : Shared}
theorem add_S {x y : PySem.Str} {a b : List Nat} {t u : Tok} {Q : Value → Shared → Prop} (hx : x = S a) (hy : y = S b) (hl : a.length + b.length ≤ 1000000) (h : ∀ t' k, (a ++ b).length = a.length + b.length → Q (.str (S (a ++ b)) t') { s with toks := k }) :
    wpAny (model prog w) A (binaryOp .Add (.str x t) (.str y u)) Q E s := by
  subst hx; subst hy
  refine KOpn.add (by rw [S_len, S_len]; omega) fun t' k _ => ?_
  rw [S_app]; exact h t' k (by simp)
end

local macro_rules | `(tactic| walk_at "asS") => `(tactic| first | with_reducible exact lit_l | with_reducible exact lit_r | with_reducible exact lit_rl | with_reducible exact lit_d | with_reducible exact lit_d2 | with_reducible exact lit_e | with_reducible exact lit_sl | with_reducible exact lit_z | with_reducible exact lit_st | with_reducible exact rfl)
local macro_rules | `(tactic| walk_at "lens") => `(tactic| first | omega | ((simp only [List.length_append, List.length_cons, List.length_nil, List.length_drop, List.length_take, List.length_map]); omega) | ((simp only [List.length_append, List.length_cons, List.length_nil, List.length_drop, List.length_take, List.length_map] at *); omega))
local macro_rules | `(tactic| walk_at "binaryOp Add str str") => `(tactic| (k_here; (with_reducible show wpAny _ _ (binaryOp Operator.Add (Value.str _ _) (Value.str _ _)) _ _ _); (refine' add_S ?k1 ?k2 ?k3 ?_; (case k1 => walk_at "asS"); (case k2 => walk_at "asS"); (case k3 => walk_at "lens"); (intro t' k' ln'))))
local macro_rules | `(tactic| walk_at "pyIter ref") => `(tactic| (k_here; refine Stopped.here ?_))
local macro_rules | `(tactic| walk_at "call ref") => `(tactic| (k_here; k_dflt (
  (refine' Con.use (quotedata_con _ _ _ _ ?k0) ?k1 ?k2 ?k3 ?k4 ?k5 ?k6 ?k7 ?k8 ?_;
   (case k0 => omega); (case k1 => k_asm); (case k2 => k_asm); (case k3 => k_asm); (case k4 => k_asm); (case k5 => k_asm); (case k6 => first | rfl | assumption); (case k7 => ktr_room); (case k8 => ktr_units);
   (intro t' h' tk' F' N'); (try k_sweep)))))

theorem sent_con (w : World) {p : Program} {loose : List PySem.Str} {mean : ExcName → Option Value} {mg mb : PySem.Str → Option Value} (news : List (Addr × Obj)) (l : List Nat) (t t2 : Tok) (n : Nat) (hl : l.length ≤ 1000) (hn : n ≤ 3) :
    Con 114 3 16 w p loose mean mg mb news [.str (S l) t, .int n t2] (RetStr news (sent n l)) := by
  unfold Con
  k_fill
  refine' con_of [(PySem.Str.ofString "mail", .str (S l) t), (PySem.Str.ofString "times", .int n t2)] ?ho ?hcd ?hb ?hl (by decide) ?h ?c1 ?c2 ?c3 ?c4
  case ho => exact rfl
  case hcd => exact rfl
  case hb => exact fun s => BindsTo.of_eq rfl
  case hl => exact locs rfl
  case c1 => exact rfl
  case c2 => exact rfl
  case c3 => exact rfl
  case c4 => decide
  case h =>
    intro dp un gd cn cs a ccd cl outer base h₀ L m s Q E hd hu hk ret g' L' h' tk FG' F' N' B' X' T'
    show wpAny _ _ _ _ _ _
    k_fold
    k_steps
    unfold Stopped
    refine wl_range (σ := List Nat × Tok) (fun _ => news) (fun c => [(PySem.Str.ofString "mail", .str (S c.1) c.2)]) [] (fun i c => c.1 = Qn i l) (l, t) rfl (by assumption) (rsmall 0 n (by omega) (by omega)) (rsize n) (by k_asm) (by k_asm) ?hk rfl ?turn ?done
    case hk => kst_all
    case turn =>
      rintro ⟨c, tc⟩ i ti u h tk I oI hi hc hne F' N'
      dsimp only at hc
      subst hc
      have hlen := Qn_le (n := i) (l := l) (by omega) hl
      dsimp only [kstB] at F'
      show wpAny _ _ _ _ _ _
      k_fold
      k_steps

      refine' TurnEnd.next (c := (_, _)) ?e1 ?e2 ?e3 ?e4 ?e5 ?e6 ?e7 ?e8
      case e1 => k_asm
      case e2 => k_asm
      case e3 => exact .head _
      case e4 => exact fun p h => .tail _ h
      case e6 => kst_all
      case e5 => exact hne
      case e7 => kst_same
      case e8 => exact (Qn_succ i l).symm
    case done =>
      rintro ⟨c, tc⟩ u h tk hc F' N'
      dsimp only at hc
      subst hc
      have hlen := Qn_le (n := n) (l := l) (by omega) hl
      dsimp only [kstB] at F'
      k_steps
      refine' leaveK_ ?d1 ?d2 ?_
      case d1 => k_asm
      case d2 => k_asm
      intro kF kN
      exact ret _ _ _ kF kN
end Mine

end
/-! StrOps -/
section
open PySem PySem.W PyProof.Rows
set_option maxRecDepth 100000
set_option maxHeartbeats 1000000
namespace Mine
open PySem.Builtin PySem.Builtin.Str

/-- cut at a pattern -/
def spP (pat : List Nat) : List Nat → List (List Nat)
  | [] => [[]]
  | c :: r => if pat.isPrefixOf (c :: r) then [] :: spP pat (r.drop (pat.length - 1)) else match spP pat r with
    | h :: t => (c :: h) :: t
    | [] => [[c]]
termination_by l => l.length
decreasing_by all_goals simp_wf <;> omega
/-- where it is cut -/
def occL (pat : List Nat) : List Nat → Nat → List Nat
  | [], _ => []
  | c :: r, i => if pat.isPrefixOf (c :: r) then i :: occL pat (r.drop (pat.length - 1)) (i + pat.length) else occL pat r (i + 1)
termination_by l => l.length
decreasing_by all_goals simp_wf <;> omega

theorem spP_ne (pat : List Nat) : ∀ l, spP pat l ≠ [] := by
  intro l
  cases l with
  | nil => simp [spP]
  | cons c r =>
    rw [spP]
    by_cases h : pat.isPrefixOf (c :: r) = true
    · rw [if_pos h]; exact List.cons_ne_nil _ _
    · rw [if_neg h]
      cases spP pat r with
      | nil => exact List.cons_ne_nil _ _
      | cons a b => exact List.cons_ne_nil _ _

section
variable {pat : List Nat} (hp : pat ≠ [])
include hp

theorem prefix_at {l : List Nat} {j : Nat} (hj : j ≤ l.length) : (j + pat.length ≤ l.length ∧ subAt (S l) (S pat) j = true) ↔ pat.isPrefixOf (l.drop j) = true := by
  rw [List.isPrefixOf_iff_prefix]
  have e : subAt (S l) (S pat) j = decide ((l.drop j).take pat.length = pat) := by
    unfold subAt
    rw [StrLaws.beq_toList]
    have h1 : ((S l).cps.extract j (j + (S pat).length)).toList = (l.drop j).take pat.length := by
      have := extract_list l.toArray j (j + pat.length)
      simpa [S_len] using this
    have h2 : (S pat).cps.toList = pat := rfl
    rw [h1, h2]
    rw [Bool.eq_iff_iff]; simp
  rw [e, decide_eq_true_eq]
  constructor
  · rintro ⟨_, h⟩; rw [← h]; exact List.take_prefix _ _
  · intro h
    have h1 := h.length_le
    rw [List.length_drop] at h1
    have hpos : 0 < pat.length := List.length_pos_iff.mpr hp
    exact ⟨by omega, (List.prefix_iff_eq_take.mp h).symm⟩

theorem occ_fold (l : List Nat) (limit : Nat) (hlim : l.length < limit) : ∀ (k j : Nat) (found : Array Nat) (free : Nat), j + k = l.length + 1 → found.size ≤ j → free ≤ l.length →
    (forIn (m := Id) (List.range' j k) (found, free) (StrLaws.occBody (S l) (S pat) l.length limit)).run.fst.toList = found.toList ++ (if free ≤ j then occL pat (l.drop j) j else occL pat (l.drop free) free)
  | 0, j, found, free, hk, _, hf => by
    have hj : j = l.length + 1 := by omega
    simp only [List.range'_zero, List.forIn_nil]
    rw [if_pos (by omega), List.drop_of_length_le (by omega)]
    simp [occL]
  | k + 1, j, found, free, hk, hs, hf => by
    have hpos : 0 < pat.length := List.length_pos_iff.mpr hp
    rw [List.range'_succ, List.forIn_cons]
    by_cases hfree : free ≤ j
    · rw [if_pos hfree]
      by_cases hpre : pat.isPrefixOf (l.drop j) = true
      · obtain ⟨h1, h2⟩ := (prefix_at hp (by omega)).mpr hpre
        have hb : StrLaws.occBody (S l) (S pat) l.length limit j (found, free) = pure (ForInStep.yield (found.push j, j + pat.length)) := by
          unfold StrLaws.occBody
          rw [S_len, if_pos ⟨⟨⟨by show found.size < limit; omega, hfree⟩, h1⟩, h2⟩]
        rw [hb]
        refine Eq.trans (occ_fold l limit hlim k (j + 1) (found.push j) (j + pat.length) (by omega) (by rw [Array.size_push]; omega) h1) ?_
        have hlt : j < l.length := by omega
        rw [List.drop_eq_getElem_cons hlt, occL]
        rw [List.drop_eq_getElem_cons hlt] at hpre
        rw [if_pos hpre, Array.toList_push, List.drop_drop]
        have e1 : j + 1 + (pat.length - 1) = j + pat.length := by omega
        rw [e1]
        by_cases hw : j + pat.length ≤ j + 1
        · have e2 : j + pat.length = j + 1 := by omega
          rw [if_pos hw, e2]; simp
        · rw [if_neg hw]; simp
      · have hb : StrLaws.occBody (S l) (S pat) l.length limit j (found, free) = pure (ForInStep.yield (found, free)) := by
          unfold StrLaws.occBody
          rw [S_len, if_neg]
          intro h
          exact hpre ((prefix_at hp (by omega)).mp ⟨h.1.2, h.2⟩)
        rw [hb]
        refine Eq.trans (occ_fold l limit hlim k (j + 1) found free (by omega) (by omega) hf) ?_
        rw [if_pos (by omega)]
        by_cases hlt : j < l.length
        · rw [List.drop_eq_getElem_cons hlt, occL]
          rw [List.drop_eq_getElem_cons hlt] at hpre
          rw [if_neg hpre]
        · rw [List.drop_of_length_le (by omega : l.length ≤ j + 1), List.drop_of_length_le (by omega : l.length ≤ j)]; simp [occL]
    · rw [if_neg hfree]
      have hb : StrLaws.occBody (S l) (S pat) l.length limit j (found, free) = pure (ForInStep.yield (found, free)) := by
        unfold StrLaws.occBody
        rw [if_neg]
        intro h
        exact hfree h.1.1.2
      rw [hb]
      refine Eq.trans (occ_fold l limit hlim k (j + 1) found free (by omega) (by omega) hf) ?_
      by_cases h1 : free ≤ j + 1
      · have e : free = j + 1 := by omega
        rw [if_pos h1, e]
      · rw [if_neg h1]

theorem occ_is (l : List Nat) : occurrences (S l) (S pat) 0 (S l).length ((S l).length + 1) = occL pat l 0 := by
  rw [StrLaws.occ_eq, S_len]
  have := occ_fold hp l (l.length + 1) (by omega) (l.length + 1) 0 #[] 0 (by omega) (by simp) (by omega)
  simpa using this

theorem parts_is (l : List Nat) : ∀ (k i a : Nat), k + i = l.length → a ≤ i → ∃ h t, spP pat (l.drop i) = h :: t ∧
    ((a :: (occL pat (l.drop i) i).map (· + pat.length)).zip (occL pat (l.drop i) i ++ [l.length])).map (fun p => strSub (S l) p.1 p.2) = ((((l.drop a).take (i - a) ++ h) :: t).map S) := by
  have hpos : 0 < pat.length := List.length_pos_iff.mpr hp
  have sub : ∀ a b, strSub (S l) a b = S ((l.drop a).take (b - a)) := by
    intro a b
    refine PySem.Str.ext' ?_
    have := extract_list l.toArray a b
    show l.toArray.extract a b = _
    apply Array.ext'
    simpa using this
  intro k
  induction k using Nat.strongRecOn with
  | ind k ih =>
    intro i a hk ha
    by_cases hlt : i < l.length
    · by_cases hpre : pat.isPrefixOf (l.drop i) = true
      · obtain ⟨h1, _⟩ := (prefix_at hp (by omega)).mpr hpre
        obtain ⟨h, t, e1, e2⟩ := ih (l.length - (i + pat.length)) (by omega) (i + pat.length) (i + pat.length) (by omega) (Nat.le_refl _)
        rw [List.drop_eq_getElem_cons hlt] at hpre ⊢
        have e3 : i + 1 + (pat.length - 1) = i + pat.length := by omega
        refine ⟨[], h :: t, ?_, ?_⟩
        · rw [spP, if_pos hpre, List.drop_drop, e3, e1]
        · rw [occL, if_pos hpre, List.drop_drop, e3]
          simp only [List.map_cons, List.cons_append, List.zip_cons_cons, List.map_cons]
          rw [e2, sub]
          simp
      · obtain ⟨h, t, e1, e2⟩ := ih (l.length - (i + 1)) (by omega) (i + 1) a (by omega) (by omega)
        have hc := List.drop_eq_getElem_cons hlt
        rw [hc] at hpre
        refine ⟨l[i] :: h, t, ?_, ?_⟩
        · rw [hc, spP, if_neg hpre, e1]
        · rw [hc, occL, if_neg hpre, e2]
          congr 2
          have : i + 1 - a = (i - a) + 1 := by omega
          rw [this]
          have h3 : (l.drop a).take (i - a + 1) = (l.drop a).take (i - a) ++ [l[i]] := by
            rw [List.take_succ_eq_append_getElem (by rw [List.length_drop]; omega)]
            congr 2
            rw [List.getElem_drop]
            congr 1
            omega
          rw [h3]; simp
    · have e : l.drop i = [] := List.drop_of_length_le (by omega)
      have hi : i = l.length := by omega
      rw [e]
      refine ⟨[], [], by rw [spP], ?_⟩
      rw [occL]
      simp only [List.map_nil, List.nil_append, List.zip_cons_cons, List.zip_nil_left, List.map_cons, List.append_nil]
      rw [sub, hi]

theorem between_is (l : List Nat) : partsBetween (S l) (occL pat l 0) pat.length = (spP pat l).map S := by
  obtain ⟨h, t, e1, e2⟩ := parts_is hp l l.length 0 0 (by omega) (Nat.le_refl _)
  simp only [List.drop_zero, Nat.sub_self, List.take_zero, List.nil_append] at e1 e2
  rw [e1, ← e2]
  unfold partsBetween
  rw [S_len]

theorem split_is (l : List Nat) (hk : ∀ c ∈ pat, c < 256) : Txt.split (S l) (S pat) = (spP pat l).map S := by
  unfold Txt.split
  have hkind : Builtin.Str.strKind (S pat) = 1 := by
    unfold Builtin.Str.strKind
    rw [if_pos]
    rw [Array.all_eq_true']
    intro c hc
    have : c ∈ pat := by simpa using hc
    simpa using hk c this
  have hkind2 : 1 ≤ Builtin.Str.strKind (S l) := by
    unfold Builtin.Str.strKind; split <;> first | decide | (split <;> decide)
  rw [occ_is hp, S_len, S_len]
  have whole : occL pat l 0 = [] → (spP pat l).map S = [S l] := by
    intro h0
    rw [← between_is hp, h0]
    unfold partsBetween
    simp only [List.map_nil, List.nil_append, List.zip_cons_cons, List.zip_nil_left, List.map_cons]
    congr 1
    refine PySem.Str.ext' ?_
    show l.toArray.extract 0 (S l).length = l.toArray
    rw [S_len]; simp
  by_cases h1 : (decide (l.length < pat.length) || decide (Builtin.Str.strKind (S l) < Builtin.Str.strKind (S pat))) = true
  · rw [if_pos h1]
    have h2 : l.length < pat.length := by
      rw [hkind] at h1
      simp only [Bool.or_eq_true, decide_eq_true_eq] at h1
      omega
    have h0 : occL pat l 0 = [] := by
      have key : ∀ (n : Nat) (x : List Nat) (i : Nat), x.length ≤ n → x.length < pat.length → occL pat x i = [] := by
        intro n
        induction n with
        | zero =>
          intro x i hx _
          have : x = [] := List.eq_nil_of_length_eq_zero (by omega)
          subst this; rw [occL]
        | succ n ih =>
          intro x i hx hlt
          cases x with
          | nil => rw [occL]
          | cons c r =>
            rw [occL, if_neg]
            · simp only [List.length_cons] at hx hlt
              exact ih r (i + 1) (by omega) (by omega)
            · intro hpre
              have := (List.isPrefixOf_iff_prefix.mp hpre).length_le
              omega
      exact key l.length l 0 (Nat.le_refl _) h2
    exact (whole h0).symm
  · rw [if_neg h1]
    by_cases h0 : occL pat l 0 = []
    · rw [h0]; simp only [List.isEmpty_nil, if_true]; exact (whole h0).symm
    · rw [if_neg (by simpa using h0), between_is hp]

/-- the rows with a text between them -/
def joinL (sep : List Nat) : List (List Nat) → List Nat
  | [] => []
  | [x] => x
  | x :: rest => x ++ sep ++ joinL sep rest
omit hp in
theorem join_is (sep : List Nat) : ∀ xs : List (List Nat), PySem.Str.join (S sep) (xs.map S) = S (joinL sep xs)
  | [] => rfl
  | [x] => rfl
  | x :: y :: rest => by
    show S x ++ S sep ++ PySem.Str.join (S sep) ((y :: rest).map S) = _
    rw [join_is sep (y :: rest), S_app, S_app]
    rfl

theorem replace_is (l z : List Nat) : Txt.replace (S l) (S pat) (S z) = S (joinL z (spP pat l)) := by
  unfold Txt.replace
  rw [occ_is hp, S_len, S_len]
  have hpos : 0 < pat.length := List.length_pos_iff.mpr hp
  have hb : (pat.length == 0) = false := by simp; exact hp
  rw [hb, Bool.false_and, Bool.or_false]
  by_cases h0 : occL pat l 0 = []
  · rw [h0]; simp only [List.isEmpty_nil, if_true]
    have h1 := between_is hp l
    rw [h0] at h1
    have h2 : (spP pat l).map S = [S l] := by
      rw [← h1]
      unfold partsBetween
      simp only [List.map_nil, List.nil_append, List.zip_cons_cons, List.zip_nil_left, List.map_cons]
      congr 1
      refine PySem.Str.ext' ?_
      show l.toArray.extract 0 (S l).length = l.toArray
      rw [S_len]; simp
    cases e : spP pat l with
    | nil => exact absurd e (spP_ne pat l)
    | cons a r =>
      rw [e] at h2
      simp only [List.map_cons, List.cons.injEq, List.map_eq_nil_iff] at h2
      rw [h2.2]
      exact h2.1.symm
  · rw [if_neg (by simpa using h0), between_is hp, StrLaws.glued_eq_join, join_is]
end
end Mine

end
/-! StrOps2 -/
section
open PySem PySem.W PyProof.Rows
set_option maxRecDepth 100000
set_option maxHeartbeats 1000000
namespace Mine

theorem spP_nil (pat : List Nat) : spP pat [] = [[]] := by rw [spP]
theorem spP_no {pat : List Nat} {c : Nat} {r : List Nat} (h : pat.isPrefixOf (c :: r) = false) : ∃ a t, spP pat r = a :: t ∧ spP pat (c :: r) = (c :: a) :: t := by
  cases e : spP pat r with
  | nil => exact absurd e (spP_ne pat r)
  | cons a t => refine ⟨a, t, rfl, ?_⟩; rw [spP, if_neg (by rw [h]; decide), e]
theorem spP_one (c : Nat) (r : List Nat) : spP [c] (c :: r) = [] :: spP [c] r := by rw [spP, if_pos (by simp)]; rfl
theorem spP_one_ne {c d : Nat} (h : d ≠ c) (r : List Nat) : ∃ a t, spP [c] r = a :: t ∧ spP [c] (d :: r) = (d :: a) :: t := spP_no (pat := [c]) (by show (c == d && true) = false; simp; exact fun e => h e.symm)
theorem spP_end (r : List Nat) : spP [13, 10] (13 :: 10 :: r) = [] :: spP [13, 10] r := by rw [spP, if_pos (by simp)]; rfl
theorem joinL_nil (z : List Nat) {xs : List (List Nat)} (h : xs ≠ []) : joinL z ([] :: xs) = z ++ joinL z xs := by
  cases xs with
  | nil => exact absurd rfl h
  | cons a t => simp [joinL]
theorem joinL_cons (z : List Nat) (c : Nat) (a : List Nat) (t : List (List Nat)) : joinL z ((c :: a) :: t) = c :: joinL z (a :: t) := by
  cases t <;> simp [joinL]
theorem joinL_empty : ∀ xs : List (List Nat), joinL [] xs = xs.flatMap id
  | [] => rfl
  | [x] => by simp [joinL]
  | x :: y :: t => by rw [joinL, joinL_empty (y :: t)] <;> simp

theorem no_end {c : Nat} {r : List Nat} (h : ¬ (c = 13 ∧ r.head? = some 10)) : ([13, 10] : List Nat).isPrefixOf (c :: r) = false := by
  cases r with
  | nil => show (13 == c && false) = false; simp
  | cons d r =>
    simp only [List.head?_cons, Option.some.injEq] at h
    simp only [List.isPrefixOf_cons_cons, List.isPrefixOf_nil_left, Bool.and_true, Bool.and_eq_false_iff, beq_eq_false_iff_ne]
    by_cases h1 : c = 13
    · exact .inr fun e => h ⟨h1, e.symm⟩
    · exact .inl fun e => h1 e.symm

theorem spP_sp : ∀ l, spP [13, 10] l = sp l := by
  refine q_ind ?_ ?_ ?_ ?_ ?_
  · rw [spP_nil, sp_nil]
  · intro r h _; rw [spP_end, h, sp_end]
  · intro r h
    obtain ⟨a, t, e1, e2⟩ := spP_no (pat := [13, 10]) (c := 10) (r := r) (no_end (by simp))
    obtain ⟨b, u, f1, f2⟩ := sp_cons 10 r (by simp)
    rw [e2, f2]
    rw [e1] at h; rw [f1] at h
    simp only [List.cons.injEq] at h
    rw [h.1, h.2]
  · intro r h0 h
    obtain ⟨a, t, e1, e2⟩ := spP_no (pat := [13, 10]) (c := 13) (r := r) (no_end (by simp [h0]))
    obtain ⟨b, u, f1, f2⟩ := sp_cons 13 r (by simp [h0])
    rw [e2, f2]
    rw [e1] at h; rw [f1] at h
    simp only [List.cons.injEq] at h
    rw [h.1, h.2]
  · intro c r h1 h2 h
    obtain ⟨a, t, e1, e2⟩ := spP_no (pat := [13, 10]) (c := c) (r := r) (no_end (by simp [h1]))
    obtain ⟨b, u, f1, f2⟩ := sp_cons c r (by simp [h1])
    rw [e2, f2]
    rw [e1] at h; rw [f1] at h
    simp only [List.cons.injEq] at h
    rw [h.1, h.2]

/-- a text, an end of two signs made one -/
def r1 (l : List Nat) : List Nat := joinL [10] (spP [13, 10] l)
theorem r1_nil : r1 [] = [] := by unfold r1; rw [spP_nil]; rfl
theorem r1_end (r : List Nat) : r1 (13 :: 10 :: r) = 10 :: r1 r := by unfold r1; rw [spP_end, joinL_nil _ (spP_ne _ _)]; rfl
theorem r1_cons {c : Nat} {r : List Nat} (h : ¬ (c = 13 ∧ r.head? = some 10)) : r1 (c :: r) = c :: r1 r := by
  obtain ⟨a, t, e1, e2⟩ := spP_no (no_end h)
  unfold r1; rw [e2, e1, joinL_cons]
theorem r2_nil : joinL [10] (spP [13] []) = [] := by rw [spP_nil]; rfl
theorem r2_cr (r : List Nat) : joinL [10] (spP [13] (13 :: r)) = 10 :: joinL [10] (spP [13] r) := by rw [spP_one, joinL_nil _ (spP_ne _ _)]; rfl
theorem r2_cons {c : Nat} (h : c ≠ 13) (r : List Nat) : joinL [10] (spP [13] (c :: r)) = c :: joinL [10] (spP [13] r) := by
  obtain ⟨a, t, e1, e2⟩ := spP_one_ne h r
  rw [e2, e1, joinL_cons]

theorem rows_are : ∀ l, spP [10] (joinL [10] (spP [13] (r1 l))) = rws l := by
  refine q_ind ?_ ?_ ?_ ?_ ?_
  · rw [r1_nil, r2_nil, spP_nil, rws_nil]
  · intro r h _; rw [r1_end, r2_cons (by decide), spP_one, h, rws_crlf]
  · intro r h; rw [r1_cons (by simp), r2_cons (by decide), spP_one, h, rws_lf]
  · intro r h0 h; rw [r1_cons (by simp [h0]), r2_cr, spP_one, h, rws_cr r h0]
  · intro c r h1 h2 h
    rw [r1_cons (by simp [h1]), r2_cons h1]
    obtain ⟨a, t, e1, e2⟩ := spP_one_ne h2 (joinL [10] (spP [13] (r1 r)))
    obtain ⟨b, u, f1, f2⟩ := rws_ord c r h1 h2
    rw [e2, f2]
    rw [e1, f1] at h
    simp only [List.cons.injEq] at h
    rw [h.1, h.2]

theorem spP_len {pat : List Nat} : ∀ (n : Nat) (l : List Nat), l.length ≤ n → (joinL [10] (spP pat l)).length ≤ l.length + 1 * l.length ∧ (spP pat l).length ≤ l.length + 1 := by
  intro n
  induction n with
  | zero => intro l h; have : l = [] := List.eq_nil_of_length_eq_zero (by omega); subst this; rw [spP_nil]; simp [joinL]
  | succ n ih =>
    intro l h
    cases l with
    | nil => rw [spP_nil]; simp [joinL]
    | cons c r =>
      simp only [List.length_cons] at h
      cases hp : pat.isPrefixOf (c :: r) with
      | true =>
        rw [spP, if_pos hp, joinL_nil _ (spP_ne _ _)]
        have h2 : (r.drop (pat.length - 1)).length ≤ r.length := by rw [List.length_drop]; omega
        have := ih (r.drop (pat.length - 1)) (by omega)
        simp only [List.length_append, List.length_cons, List.length_nil]
        omega
      | false =>
        obtain ⟨a, t, e1, e2⟩ := spP_no hp
        have := ih r (by omega)
        rw [e1] at this
        rw [e2, joinL_cons]
        simp only [List.length_cons] at this ⊢
        omega

theorem head_slash : ∀ l, ∃ t, spP [47] l = l.takeWhile (fun c => decide (c ≠ 47)) :: t
  | [] => ⟨[], by rw [spP_nil]; rfl⟩
  | c :: r => by
    by_cases h : c = 47
    · subst h; exact ⟨spP [47] r, by rw [spP_one]; simp⟩
    · obtain ⟨a, t, e1, e2⟩ := spP_one_ne h r
      obtain ⟨t', e3⟩ := head_slash r
      rw [e1] at e3
      exact ⟨t, by rw [e2, (List.cons.inj e3).1]; simp [h]⟩

/-! ## in -/
theorem contains_is (l a : List Nat) : Txt.contains (S l) (S a) = inb a l := by
  rw [Bool.eq_iff_iff, inb_iff]
  refine (StrLaws.found_iff (S l) (S a)).trans ?_
  rw [S_len, S_len]
  constructor
  · rintro ⟨i, _, h⟩
    rw [StrLaws.subAt_eq, S_len] at h
    have h2 : (l.drop i).take a.length = a := by simpa using h
    rw [← h2]
    exact (List.take_prefix _ _).isInfix.trans (List.drop_suffix _ _).isInfix
  · rintro ⟨u, v, e⟩
    refine ⟨u.length, by have := congrArg List.length e; simp at this; omega, ?_⟩
    rw [StrLaws.subAt_eq, S_len]
    have : (l.drop u.length).take a.length = a := by rw [← e]; simp
    simpa using this

theorem lower_is {l : List Nat} (h : ∀ c ∈ l, c < 128) : Txt.lower (S l) = S (l.map low) := by
  rw [lower_ascii (by simpa using h)]
  show (⟨l.toArray.map lo1⟩ : PySem.Str) = ⟨(l.map low).toArray⟩
  rw [List.map_toArray]; rfl
theorem upper_is {l : List Nat} (h : ∀ c ∈ l, c < 128) : Txt.upper (S l) = S (l.map up) := by
  rw [upper_ascii (by simpa using h)]
  show (⟨l.toArray.map up1⟩ : PySem.Str) = ⟨(l.map up).toArray⟩
  rw [List.map_toArray]; rfl
theorem Al_lt {c : Nat} (h : Al c) : c < 128 := by
  unfold Al at h; simp at h
  rcases h with rfl | rfl | rfl | rfl | rfl | rfl | rfl | rfl <;> decide
end Mine

end
/-! Rules -/
section
open PySem PySem.W PyProof.Rows
set_option maxRecDepth 100000
set_option maxHeartbeats 1000000
namespace Mine

/-! ## slices -/
def clip (i : Int) (n : Nat) : Nat := (max 0 (min (if i < 0 then i + n else i) n)).toNat
theorem clip_le (i : Int) (n : Nat) : clip i n ≤ n := by unfold clip; omega
theorem idx_clip_lo (i : Int) (u : Option Int) (n : Nat) : Builtin.Str.strSliceIndices (some i) u 1 n = Builtin.Str.strSliceIndices (some ((clip i n : Nat) : Int)) u 1 n := by
  have e : max (0 : Int) (min (if i < 0 then i + n else i) n) = max 0 (min (if ((clip i n : Nat) : Int) < 0 then ((clip i n : Nat) : Int) + n else ((clip i n : Nat) : Int)) n) := by
    have := clip_le i n
    rw [if_neg (by omega : ¬ ((clip i n : Nat) : Int) < 0)]
    unfold clip at this ⊢
    split at this <;> omega
  unfold Builtin.Str.strSliceIndices
  simp only [show ((1 : Int) > 0) = True from by simp, if_true]
  rw [e]
theorem idx_clip_hi (l : Option Int) (i : Int) (n : Nat) : Builtin.Str.strSliceIndices l (some i) 1 n = Builtin.Str.strSliceIndices l (some ((clip i n : Nat) : Int)) 1 n := by
  have e : max (0 : Int) (min (if i < 0 then i + n else i) n) = max 0 (min (if ((clip i n : Nat) : Int) < 0 then ((clip i n : Nat) : Int) + n else ((clip i n : Nat) : Int)) n) := by
    have := clip_le i n
    rw [if_neg (by omega : ¬ ((clip i n : Nat) : Int) < 0)]
    unfold clip at this ⊢
    split at this <;> omega
  unfold Builtin.Str.strSliceIndices
  simp only [show ((1 : Int) > 0) = True from by simp, if_true]
  rw [e]
theorem slice_ss (l : List Nat) (i j : Int) (h : clip i l.length ≤ clip j l.length) : Txt.slice (S l) (some i) (some j) = S ((l.drop (clip i l.length)).take (clip j l.length - clip i l.length)) := by
  show StrLaws.sliceText (S l) (some i) (some j) = _
  have e : StrLaws.sliceText (S l) (some i) (some j) = StrLaws.sliceText (S l) (some ((clip i l.length : Nat) : Int)) (some ((clip j l.length : Nat) : Int)) := by
    unfold StrLaws.sliceText
    rw [S_len, idx_clip_lo, idx_clip_hi]
  rw [e, StrLaws.sliceText_nat _ h (by rw [S_len]; exact clip_le _ _)]
theorem slice_ns (l : List Nat) (j : Int) : Txt.slice (S l) none (some j) = S (l.take (clip j l.length)) := by
  have e : Txt.slice (S l) none (some j) = Txt.slice (S l) (some 0) (some j) := by
    show StrLaws.sliceText _ _ _ = StrLaws.sliceText _ _ _
    unfold StrLaws.sliceText
    rw [StrLaws.sliceIdx_none_lo]
  have h0 : clip 0 l.length = 0 := by unfold clip; rw [if_neg (by omega)]; omega
  rw [e, slice_ss _ _ _ (by rw [h0]; omega), h0]
  simp
theorem slice_sn (l : List Nat) (i : Int) : Txt.slice (S l) (some i) none = S (l.drop (clip i l.length)) := by
  have e : Txt.slice (S l) (some i) none = Txt.slice (S l) (some i) (some (l.length : Int)) := by
    show StrLaws.sliceText _ _ _ = StrLaws.sliceText _ _ _
    unfold StrLaws.sliceText
    rw [S_len, StrLaws.sliceIdx_none_hi]
  have h0 : clip (l.length : Int) l.length = l.length := by unfold clip; rw [if_neg (by omega)]; omega
  rw [e, slice_ss _ _ _ (by rw [h0]; exact clip_le _ _), h0]
  rw [List.take_of_length_le (by rw [List.length_drop]; omega)]
theorem take_clip (l : List Nat) (n : Nat) : l.take (clip (n : Int) l.length) = l.take n := by
  have : clip (n : Int) l.length = min n l.length := by unfold clip; rw [if_neg (by omega)]; omega
  rw [this, List.take_eq_take_iff]; omega
theorem drop_clip (l : List Nat) (n : Nat) : l.drop (clip (n : Int) l.length) = l.drop n := by
  have : clip (n : Int) l.length = min n l.length := by unfold clip; rw [if_neg (by omega)]; omega
  rw [this]
  by_cases h : n ≤ l.length
  · rw [Nat.min_eq_left h]
  · rw [Nat.min_eq_right (by omega), List.drop_of_length_le (Nat.le_refl _), List.drop_of_length_le (by omega)]
theorem clip_neg (n : Nat) : clip (-1) n = n - 1 := by unfold clip; rw [if_pos (by omega)]; omega
theorem slice_to (l : List Nat) (n : Nat) : Txt.slice (S l) none (some (n : Int)) = S (l.take n) := by rw [slice_ns, take_clip]
theorem slice_from (l : List Nat) (n : Nat) : Txt.slice (S l) (some (n : Int)) none = S (l.drop n) := by rw [slice_sn, drop_clip]
theorem slice_but (l : List Nat) : Txt.slice (S l) none (some (-1)) = S l.dropLast := by rw [slice_ns, clip_neg, List.dropLast_eq_take]
theorem slice_last (l : List Nat) : Txt.slice (S l) (some (-1)) none = S (l.drop (l.length - 1)) := by rw [slice_sn, clip_neg]
theorem slice_two (l : List Nat) (a b : Nat) (h : a ≤ b) : Txt.slice (S l) (some (a : Int)) (some (b : Int)) = S ((l.drop a).take (b - a)) := by
  have ca : clip (a : Int) l.length = min a l.length := by unfold clip; rw [if_neg (by omega)]; omega
  have cb : clip (b : Int) l.length = min b l.length := by unfold clip; rw [if_neg (by omega)]; omega
  rw [slice_ss _ _ _ (by rw [ca, cb]; omega)]
  congr 1
  rw [drop_clip, ca, cb, List.take_eq_take_iff, List.length_drop]
  omega

/-! ## calls on texts -/
section
variable {prog : Program} {w : World} {A : Around} {E : Value → Shared → Prop} {s : Shared} {h₀ : Heap} {L : Addr} {m : PySem.Str → Option Value} {news : List (Addr × Obj)} {x y z : PySem.Str} {l pat r : List Nat} {t u v : Tok} {Q : Value → Shared → Prop}
theorem strs_vals : ∀ (l : List (PySem.Str × Tok)) (ys : List PySem.Str), l.map (·.1) = ys → StrsAre (strValues l) ys
  | [], ys, h => by subst h; exact .nil
  | (a, b) :: r, ys, h => by subst h; exact .cons a b (strs_vals r _ rfl)
theorem split_S (F : Fr h₀ L s.heap m) (N : News h₀ L s.heap news) (hx : x = S l) (hy : y = S pat) (hp : pat ≠ []) (hk : ∀ c ∈ pat, c < 256) (hl : l.length ≤ 1000000)
    (h : ∀ D vs h' k, StrsAre vs ((spP pat l).map S) → Fr h₀ L h' m → News h₀ L h' ((D, listOf vs.toArray 0) :: news) → (∀ p ∈ news, p.1 < D) → Q (.ref D) { s with heap := h', toks := k }) :
    wpAny (model prog w) A (call (.builtin "str.split") [.str x t, .str y u]) Q E s := by
  subst hx hy
  refine KSpl.split1 F N (by rw [S_len]; simp; exact hp) (fun D l' h' k e Y F' N' hn => h D _ h' k (strs_vals _ _ (e.trans (split_is hp l hk))) F' N' hn) (by rw [S_len, PySem.sizeLine_eq]; omega)
theorem replace_S (hu : u ≠ 0) (hv : v ≠ 0) (huv : u ≠ v) (hx : x = S l) (hy : y = S pat) (hz : z = S r) (hp : pat ≠ []) (hne : pat ≠ r) (hl : l.length ≤ 100000) (hr : r.length ≤ 14)
    (h : ∀ t' k, s.toks ≤ k → Q (.str (S (joinL r (spP pat l))) t') { s with toks := k }) : wpAny (model prog w) A (call (.builtin "str.replace") [.str x t, .str y u, .str z v]) Q E s := by
  subst hx hy hz
  refine wpAny_with_toks (Nat.le_refl s.toks) (SC.replaceW hu hv huv ?_ (by rw [S_len]; omega) (by rw [S_len]; omega) fun t' k hk => ?_)
  · rw [beq_eq_false_iff_ne]
    intro e
    have e1 := congrArg (fun q : PySem.Str => q.cps.toList) e
    exact hne e1
  · rw [replace_is hp]; exact h t' k hk
theorem lower_S (hx : x = S l) (hA : ∀ c ∈ l, c < 128) (hl : l.length ≤ 1000000) (h : ∀ t' k, Q (.str (S (l.map low)) t') { s with toks := k }) : wpAny (model prog w) A (call (.builtin "str.lower") [.str x t]) Q E s := by
  subst hx
  refine SCL.lower (by rw [S_len]; omega) fun _ => ?_
  rw [lower_is hA]; exact h _ _
theorem upper_S (hx : x = S l) (hA : ∀ c ∈ l, c < 128) (hl : l.length ≤ 1000000) (h : ∀ t' k, Q (.str (S (l.map up)) t') { s with toks := k }) : wpAny (model prog w) A (call (.builtin "str.upper") [.str x t]) Q E s := by
  subst hx
  refine SCL.upper (by rw [S_len]; omega) fun _ => ?_
  rw [upper_is hA]; exact h _ _
theorem in_S {Q : Value → Shared → Prop} (hx : x = S l) (hy : y = S r) (h : Q (.bool (inb r l)) s) : wpAny (model prog w) A (compareOp .In (.str y u) (.str x t)) Q E s := by
  subst hx hy
  refine P.in_str ?_
  show Q (.bool (Txt.contains (S l) (S r))) s
  rw [contains_is]; exact h
theorem strs_len : ∀ {vs : List Value} {ys : List (List Nat)}, StrsAre vs (ys.map S) → vs.length = ys.length
  | _, [], h => by cases h; rfl
  | _, y :: r, h => by cases h with | cons _ _ h' => simp [strs_len h']
theorem strs_at : ∀ {vs : List Value} {ys : List (List Nat)} {i : Nat} {v : Value}, StrsAre vs (ys.map S) → vs[i]? = some v → ∃ y t, ys[i]? = some y ∧ v = .str (S y) t
  | _, [], _, _, h, hv => by cases h; simp at hv
  | _, y :: r, 0, _, h, hv => by
    cases h with | cons _ t h' => simp at hv; exact ⟨y, t, by simp, hv.symm⟩
  | _, y :: r, i + 1, _, h, hv => by
    cases h with | cons _ _ h' => simp at hv; simpa using strs_at h' hv
theorem strs_get {vs : List Value} {ys : List (List Nat)} {i : Nat} {y : List Nat} (h : StrsAre vs (ys.map S)) (hv : ys[i]? = some y) : ∃ t, vs[i]? = some (.str (S y) t) := by
  have h1 := strs_len h
  have h2 : i < vs.length := by rw [h1]; exact (List.getElem?_eq_some_iff.mp hv).1
  obtain ⟨y', t, e1, e2⟩ := strs_at h (List.getElem?_eq_getElem h2)
  rw [hv] at e1
  cases e1
  exact ⟨t, by rw [List.getElem?_eq_getElem h2, e2]⟩
theorem strs_append : ∀ {vs vs' : List Value} {ys ys' : List (List Nat)}, StrsAre vs (ys.map S) → StrsAre vs' (ys'.map S) → StrsAre (vs ++ vs') ((ys ++ ys').map S)
  | _, _, [], _, h, h' => by cases h; simpa using h'
  | _, _, y :: r, _, h, h' => by cases h with | cons _ t h₁ => exact .cons (S y) t (strs_append h₁ h')
theorem strs_one (y : List Nat) (t : Tok) : StrsAre [.str (S y) t] ([y].map S) := .cons (S y) t .nil
end

/-! ## blocks of one clause -/
/-- a turn's end: the block's own cells and the ledger as they were -/
def CEnd (h₀ : Heap) (L : Addr) (m : PySem.Str → Option Value) (led : List (Addr × Obj)) (s : Shared) (P : Prop) (s₂ : Shared) : Prop :=
  ∃ h' tk, s₂ = { s with heap := h', toks := tk } ∧ Fr h₀ L h' m ∧ News h₀ L h' led ∧ P
theorem CEnd.intro {h₀ : Heap} {L : Addr} {m : PySem.Str → Option Value} {led all : List (Addr × Obj)} {s : Shared} {P : Prop} {h' : Heap} {tk : Nat}
    (F : Fr h₀ L h' m) (N : News h₀ L h' all) (sub : ∀ p ∈ led, p ∈ all) (hP : P) : CEnd h₀ L m led s P { s with heap := h', toks := tk } := ⟨h', tk, rfl, F, fun p hp => N p (sub p hp), hP⟩
section
variable {prog : Program} {w : World} {A : Around} {E : Value → Shared → Prop} {h₀ : Heap} {L : Addr} {m : PySem.Str → Option Value} {env : Env} {ct elt : Expr} {x : PySem.Str} {scope : Scope} {cl : List (PySem.Str × Addr)} {s : Shared}
  {SS : List (Addr × Obj) → Prop} {P : Nat → Value → Prop} {Fin : List Value → List (Addr × Obj) → Prop} {news : List (Addr × Obj)}
theorem wc_rest {n : Nat} (Inv : Nat → List Value → Prop) (hS : SS news) (h0 : Inv 0 [])
    (turn : ∀ i v I oI C oC D m₂ ys h tk (E' : Value → Shared → Prop), i < n → P i v → Inv i ys → LCg.NsObj oC m₂ → m₂ x = some v → Fr h₀ L h m → News h₀ L h ((I, oI) :: (C, oC) :: (D, LCg.lst ys) :: news) → LCg.Off3 I C D news → ((@Ne Nat I C) ∧ (@Ne Nat I D) ∧ (@Ne Nat C D)) →
      wpAny (model prog w) A (eval elt (compEnvC scope cl C env)) (fun y s₂ => Stopped (CEnd h₀ L m ((I, oI) :: (C, oC) :: (D, LCg.lst ys) :: news) s (Inv (i + 1) (ys ++ [y])) s₂)) E' { s with heap := h, toks := tk })
    (fin : ∀ ys, Inv n ys → Fin ys news) : LCg.CompRest prog w A h₀ L m env elt x scope cl s SS P Fin n 0 [] news := by
  have key : ∀ (j i : Nat) (ys : List Value), i + j = n → Inv i ys → LCg.CompRest prog w A h₀ L m env elt x scope cl s SS P Fin j i ys news := by
    intro j
    induction j with
    | zero =>
      intro i ys hi hy
      have e : i = n := by omega
      subst e
      exact LCg.CompRest.zero (fin ys hy)
    | succ j ih =>
      intro i ys hi hy
      refine LCg.CompRest.succ ?_
      intro v I oI C oC D m₂ h tk E' hv hC hx F N off ne
      refine wpAny_mono (turn i v I oI C oC D m₂ ys h tk E' (by omega) hv hy hC hx F N off ne) (fun y s₂ hq => ?_) fun _ _ e => e
      obtain ⟨h', tk', rfl, F', N', hI⟩ := hq
      exact ⟨h', tk', news, rfl, F', N', off, hS, ih (i + 1) _ (by omega) hI⟩
  exact key n 0 [] (by omega) h0
theorem wct_rest {n : Nat} (Inv : Nat → List Value → Prop) (hS : SS news) (h0 : Inv 0 [])
    (turn : ∀ i v I oI C oC D m₂ ys h tk (E' : Value → Shared → Prop), i < n → P i v → Inv i ys → LCg.NsObj oC m₂ → m₂ x = some v → Fr h₀ L h m → News h₀ L h ((I, oI) :: (C, oC) :: (D, LCg.lst ys) :: news) → LCg.Off3 I C D news → ((@Ne Nat I C) ∧ (@Ne Nat I D) ∧ (@Ne Nat C D)) →
      wpAny (model prog w) A (isTrue ct (compEnvC scope cl C env) (eval ct (compEnvC scope cl C env))) (fun ok s' => if ok = true then
        wpAny (model prog w) A (eval elt (compEnvC scope cl C env)) (fun y s₂ => Stopped (CEnd h₀ L m ((I, oI) :: (C, oC) :: (D, LCg.lst ys) :: news) s (Inv (i + 1) (ys ++ [y])) s₂)) E' s'
        else Stopped (CEnd h₀ L m ((I, oI) :: (C, oC) :: (D, LCg.lst ys) :: news) s (Inv (i + 1) ys) s')) E' { s with heap := h, toks := tk })
    (fin : ∀ ys, Inv n ys → Fin ys news) : LCt.CompRestT prog w A h₀ L m env ct elt x scope cl s SS P Fin n 0 [] news := by
  have key : ∀ (j i : Nat) (ys : List Value), i + j = n → Inv i ys → LCt.CompRestT prog w A h₀ L m env ct elt x scope cl s SS P Fin j i ys news := by
    intro j
    induction j with
    | zero =>
      intro i ys hi hy
      have e : i = n := by omega
      subst e
      exact LCt.CompRestT.zero (fin ys hy)
    | succ j ih =>
      intro i ys hi hy
      refine LCt.CompRestT.succ ?_
      intro v I oI C oC D m₂ h tk E' hv hC hx F N off ne
      refine wpAny_mono (turn i v I oI C oC D m₂ ys h tk E' (by omega) hv hy hC hx F N off ne) (fun ok s₂ hq => ?_) fun _ _ e => e
      cases ok with
      | true =>
        simp only [if_true] at hq ⊢
        refine wpAny_mono hq (fun y s₃ hq => ?_) fun _ _ e => e
        obtain ⟨h', tk', rfl, F', N', hI⟩ := hq
        exact ⟨h', tk', news, rfl, F', N', off, hS, ih (i + 1) _ (by omega) hI⟩
      | false =>
        simp only [Bool.false_eq_true, if_false] at hq ⊢
        obtain ⟨h', tk', rfl, F', N', hI⟩ := hq
        exact ⟨h', tk', news, rfl, F', N', off, hS, ih (i + 1) _ (by omega) hI⟩
  exact key n 0 [] (by omega) h0
end
end Mine

/-! ## slices and tests in the walk -/
namespace Mine
section
variable {prog : Program} {w : World} {A : Around} {E : Value → Shared → Prop} {s : Shared} {h₀ : Heap} {L : Addr} {m : PySem.Str → Option Value} {news : List (Addr × Obj)} {x y z : PySem.Str} {l pat r : List Nat} {t u v : Tok} {Q : Value → Shared → Prop}
  {value slice : Expr}
theorem sl_to {j : Int} {n : Nat} (F : Fr h₀ L s.heap m) (N : News h₀ L s.heap news) (hx : x = S l) (hj : j = (n : Int)) (hl : l.length ≤ 1000000)
    (h : ∀ h' t' k, Fr h₀ L h' m → News h₀ L h' news → Q (.str (S (l.take n)) t') { s with heap := h', toks := k })
    (hs : subscripted slice false (.str x t) (.ref s.heap.objs.size) = operate [.ref s.heap.objs.size, .str x t] (getItem (.str x t) (.ref s.heap.objs.size)))
    (ht : ∀ r, letTemporaryGo value (.str x t) r = pure ()) :
    wpAny (model prog w) A (subscriptTail value slice (.str x t) (.ref s.heap.objs.size)) Q E { s with heap := s.heap.push { cls := .type "slice", data := .fields #[.none, .int j u, .none] } } := by
  subst hj; subst hx
  refine slice_strN_ns F N (fun h' t' k F' N' => ?_) hs ht (by rw [S_len, PySem.sizeLine_eq]; omega)
  rw [slice_to]; exact h h' t' k F' N'
theorem sl_from {i : Int} {n : Nat} (F : Fr h₀ L s.heap m) (N : News h₀ L s.heap news) (hx : x = S l) (hi : i = (n : Int)) (hl : l.length ≤ 1000000)
    (h : ∀ h' t' k, Fr h₀ L h' m → News h₀ L h' news → Q (.str (S (l.drop n)) t') { s with heap := h', toks := k })
    (hs : subscripted slice false (.str x t) (.ref s.heap.objs.size) = operate [.ref s.heap.objs.size, .str x t] (getItem (.str x t) (.ref s.heap.objs.size)))
    (ht : ∀ r, letTemporaryGo value (.str x t) r = pure ()) :
    wpAny (model prog w) A (subscriptTail value slice (.str x t) (.ref s.heap.objs.size)) Q E { s with heap := s.heap.push { cls := .type "slice", data := .fields #[.int i u, .none, .none] } } := by
  subst hi; subst hx
  refine slice_strN_sn F N (fun h' t' k F' N' => ?_) hs ht (by rw [S_len, PySem.sizeLine_eq]; omega)
  rw [slice_from]; exact h h' t' k F' N'
theorem sl_but {j : Int} (F : Fr h₀ L s.heap m) (N : News h₀ L s.heap news) (hx : x = S l) (hj : j = -1) (hl : l.length ≤ 1000000)
    (h : ∀ h' t' k, Fr h₀ L h' m → News h₀ L h' news → Q (.str (S l.dropLast) t') { s with heap := h', toks := k })
    (hs : subscripted slice false (.str x t) (.ref s.heap.objs.size) = operate [.ref s.heap.objs.size, .str x t] (getItem (.str x t) (.ref s.heap.objs.size)))
    (ht : ∀ r, letTemporaryGo value (.str x t) r = pure ()) :
    wpAny (model prog w) A (subscriptTail value slice (.str x t) (.ref s.heap.objs.size)) Q E { s with heap := s.heap.push { cls := .type "slice", data := .fields #[.none, .int j u, .none] } } := by
  subst hj; subst hx
  refine slice_strN_ns F N (fun h' t' k F' N' => ?_) hs ht (by rw [S_len, PySem.sizeLine_eq]; omega)
  rw [slice_but]; exact h h' t' k F' N'
theorem sl_last {i : Int} (F : Fr h₀ L s.heap m) (N : News h₀ L s.heap news) (hx : x = S l) (hi : i = -1) (hl : l.length ≤ 1000000)
    (h : ∀ h' t' k, Fr h₀ L h' m → News h₀ L h' news → Q (.str (S (l.drop (l.length - 1))) t') { s with heap := h', toks := k })
    (hs : subscripted slice false (.str x t) (.ref s.heap.objs.size) = operate [.ref s.heap.objs.size, .str x t] (getItem (.str x t) (.ref s.heap.objs.size)))
    (ht : ∀ r, letTemporaryGo value (.str x t) r = pure ()) :
    wpAny (model prog w) A (subscriptTail value slice (.str x t) (.ref s.heap.objs.size)) Q E { s with heap := s.heap.push { cls := .type "slice", data := .fields #[.int i u, .none, .none] } } := by
  subst hi; subst hx
  refine slice_strN_sn F N (fun h' t' k F' N' => ?_) hs ht (by rw [S_len, PySem.sizeLine_eq]; omega)
  rw [slice_last]; exact h h' t' k F' N'
theorem sl_two {i j : Int} {a b : Nat} {u' : Tok} (F : Fr h₀ L s.heap m) (N : News h₀ L s.heap news) (hx : x = S l) (hi : i = (a : Int)) (hj : j = (b : Int)) (hab : a ≤ b) (hl : l.length ≤ 1000000)
    (h : ∀ h' t' k, Fr h₀ L h' m → News h₀ L h' news → Q (.str (S ((l.drop a).take (b - a))) t') { s with heap := h', toks := k })
    (hs : subscripted slice false (.str x t) (.ref s.heap.objs.size) = operate [.ref s.heap.objs.size, .str x t] (getItem (.str x t) (.ref s.heap.objs.size)))
    (ht : ∀ r, letTemporaryGo value (.str x t) r = pure ()) :
    wpAny (model prog w) A (subscriptTail value slice (.str x t) (.ref s.heap.objs.size)) Q E { s with heap := s.heap.push { cls := .type "slice", data := .fields #[.int i u, .int j u', .none] } } := by
  subst hi; subst hj; subst hx
  refine slice_strN_ss F N (fun h' t' k F' N' => ?_) hs ht (by rw [S_len, PySem.sizeLine_eq]; omega)
  rw [slice_two _ _ _ hab]; exact h h' t' k F' N'
theorem strs_step {α : Type} {f : α → List Nat} {xs : List α} {y : α} {ys : List Value} {i : Nat} {z : List Nat} {t : Tok} (hI : StrsAre ys (((xs.take i).map f).map S)) (hy : xs[i]? = some y) (hz : z = f y) :
    StrsAre (ys ++ [.str (S z) t]) (((xs.take (i + 1)).map f).map S) := by
  rw [List.take_add_one, hy, List.map_append]
  subst hz
  exact strs_append hI (strs_one _ _)
theorem sum_le (b : Nat) : ∀ ys : List (List Nat), (∀ y ∈ ys, y.length ≤ b) → (ys.map (·.length)).sum ≤ ys.length * b
  | [], _ => by simp
  | y :: r, h => by
    have h1 := h y (List.mem_cons_self ..)
    have h2 := sum_le b r fun z hz => h z (List.mem_cons_of_mem _ hz)
    simp only [List.map_cons, List.sum_cons, List.length_cons, Nat.add_mul, Nat.one_mul]
    omega
theorem join_S {D : Addr} {vs : List Value} {c : Nat} {ys : List (List Nat)} {sep : List Nat} (N : News h₀ L s.heap news) (hm : (D, ({ cls := .type "list", data := .seq vs.toArray c } : Obj)) ∈ news) (hi : StrsAre vs (ys.map S)) (hx : x = S sep)
    (hok : (ys.map (·.length)).sum + ys.length * sep.length ≤ 16777216) (h : ∀ t' k, Q (.str (S (joinL sep ys)) t') { s with toks := k }) : wpAny (model prog w) A (call (.builtin "str.join") [.str x t, .ref D]) Q E s := by
  subst hx
  refine join_list (items := vs.toArray) ⟨_, (N _ hm).1, rfl, c, rfl⟩ hi ?_ fun t' k => ?_
  · rw [List.map_map, List.length_map, S_len]
    have : (PySem.Str.length ∘ S) = fun y : List Nat => y.length := funext fun y => S_len y
    rw [this]; exact hok
  · have e : Txt.join (S sep) (ys.map S) = S (joinL sep ys) := by
      unfold Txt.join
      rw [StrLaws.glued_eq_join, join_is]
    rw [e]; exact h t' k
theorem item_S {D : Addr} {vs : List Value} {c : Nat} {ys : List (List Nat)} {i : Int} {n : Nat} {y' : List Nat} (N : News h₀ L s.heap news) (hm : (D, ({ cls := .type "list", data := .seq vs.toArray c } : Obj)) ∈ news) (hi : StrsAre vs (ys.map S))
    (hn : i = (n : Int)) (hfit : n < 1000000) (hy : ys[n]? = some y') (h : ∀ t', Q (.str (S y') t') s)
    (hs : subscripted slice false (.ref D) (.int i u) = operate [.ref D, .int i u] (getItem (.ref D) (.int i u))) :
    wpAny (model prog w) A (subscriptTail value slice (.ref D) (.int i u)) Q E s := by
  subst hn
  have hl : s.heap.IsList D vs.toArray := ⟨_, (N _ hm).1, rfl, c, rfl⟩
  obtain ⟨t', e⟩ := strs_get hi hy
  exact tail_any hl.typeIs slot_list_getitem.lookup (wpAny_getItem_list hl (by omega) (by omega) (x := .str _ t') (by simpa using e) (h t')) hs
theorem mul_rep (c : Nat) : ∀ (n : Nat) (a : Array Nat), (List.replicate n (#[c] : Array Nat)).foldl (· ++ ·) a = a ++ (List.replicate n c).toArray
  | 0, a => by simp
  | n + 1, a => by
    rw [List.replicate_succ, List.foldl_cons, mul_rep c n, List.replicate_succ]
    apply Array.ext'
    simp
theorem mul_S {c n : Nat} (hx : x = S [c]) (hn : n ≤ 1000) (h : ∀ t' k, Q (.str (S (List.replicate n c)) t') { s with toks := k }) : wpAny (model prog w) A (binaryOp .Mult (.str x t) (.int (n : Int) u)) Q E s := by
  subst hx
  have e : Txt.mul (S [c]) (n : Int) = S (List.replicate n c) := by
    unfold Txt.mul
    by_cases h1 : (n : Int) < 1
    · rw [if_pos h1, show n = 0 by omega]; rfl
    · rw [if_neg h1]
      by_cases h2 : n = 1
      · subst h2; rw [if_pos (by rfl)]; rfl
      · rw [if_neg (by simp [S_len]; omega)]
        refine PySem.Str.ext' ?_
        show (List.replicate (n : Int).toNat (#[c] : Array Nat)).foldl (· ++ ·) #[] = (List.replicate n c).toArray
        rw [mul_rep, Int.toNat_natCast]; simp
  refine KXi.mul (n := 1) (S_len _) (by decide) (by omega) (by omega) fun t' k _ _ => ?_
  rw [e]; exact h t' k
theorem eqb_S (a b : List Nat) : ((S a : PySem.Str) == S b) = decide (a = b) := by
  rw [Bool.eq_iff_iff, beq_iff_eq, decide_eq_true_iff]
  constructor
  · intro e; exact congrArg (fun q : PySem.Str => q.cps.toList) e
  · intro e; rw [e]
theorem eq_S (hx : x = S l) (hy : y = S r) (h : Q (.bool (decide (l = r))) s) : wpAny (model prog w) A (compareOp .Eq (.str x t) (.str y u)) Q E s := by
  subst hx; subst hy
  refine PyProof.Rows.eq_str ?_
  rw [eqb_S]; exact h
theorem ne_S (hx : x = S l) (hy : y = S r) (h : Q (.bool (!decide (l = r))) s) : wpAny (model prog w) A (compareOp .NotEq (.str x t) (.str y u)) Q E s := by
  subst hx; subst hy
  refine PyProof.Rows.ne_str ?_
  show Q (.bool (!(S l == S r))) s
  rw [eqb_S]; exact h
end
end Mine

end
/-! Ent -/
section
open PySem PySem.W PyProof.Rows
set_option maxRecDepth 100000
set_option maxHeartbeats 8000000
namespace Mine

section
variable {M : Model} {A : Around} {E : Value → Shared → Prop} {s : Shared}
/-- the new env of a def with cells, its first argument no cell: a token is spent -/
theorem env_cells {scope : Scope} {globals : Addr} {n₀ : PySem.Str} {v₀ : Value} {r : List (PySem.Str × Value)} {qual : PySem.Str} {func : Option Addr} {code : Value} {builtins : Addr} {Q : Env → Shared → Prop}
    (hk : scope.kind = .function) (h0 : scope.names.lookup n₀ = some .local)
    (hkind : ∀ x ∈ (n₀, v₀) :: r, scope.names.lookup x.1 = some .local ∨ (scope.names.lookup x.1 = some .cell ∧ ((cellsFrom (s.heap.objs.size + 1) scope.names []).lookup x.1).isSome = true))
    (hQ : ∀ env, env = newEnv scope s.heap.objs.size globals (cellsFrom (s.heap.objs.size + 1) scope.names []) qual func code none builtins →
      ∀ s', 1 ≤ s'.toks → InCallC s env.locals (bindL env.kindOf ((n₀, v₀) :: r) fun _ => none) env.cells (bindC env.kindOf ((n₀, v₀) :: r) fun _ => none) s' → Q env s') :
    wpAny M A (newFunctionEnv scope globals [] ((n₀, v₀) :: r) qual func code none builtins) Q E s := by
  simp only [newFunctionEnv, Option.isSome_none, Bool.false_eq_true, if_false]
  refine wpAny_bind (wpAny_alloc ?_)
  refine wpAny_bind (wpAny_layCells _ (fun name kind cells => by cases hkc : kind == NameKind.cell <;> simp [hkc]) _ _ _ _ ?_)
  have ok := cellsFrom_ok scope.names (s.heap.push { cls := .type "frame", data := .dict #[] }) (s.heap.objs.size + 1) [] ⟨fun _ _ hm => (nomatch hm), List.Pairwise.nil⟩ (by rw [Heap.size_push]; exact Nat.le_refl _)
  rw [Heap.size_push] at ok
  rw [show ({ s with heap := s.heap.push { cls := .type "frame", data := .dict #[] } } : Shared).heap.objs.size = s.heap.objs.size + 1 from Heap.size_push ..]
  let env : Env := newEnv scope s.heap.objs.size globals (cellsFrom (s.heap.objs.size + 1) scope.names []) qual func code none builtins
  have x : InCallC s env.locals (fun _ => none) env.cells (fun _ => none) _ :=
    ⟨⟨⟨_, s.toks, rfl⟩, (Heap.Ns.new s.heap (.type "frame")).keeps (pushCells_keeps _ _), fun b o e => pushCells_keeps _ _ b o (Heap.get?_push_of_some _ e), Nat.le_refl _⟩,
      fun n c hc => (ok.empty n c (mem_of_lookup hc)).1, ok.apart, fun n c hm => (ok.empty n c hm).2⟩
  have hl : env.kindOf n₀ = some .local := h0
  refine wpAny_bind ?_
  rw [List.forIn_cons]
  refine wpAny_bind (wpAny_bind (wpAny_storeName_local (env := env) hl x.toInCall.ns (fun h' hn' hs' => ?_) (by have hk' : env.scope.kind = .function := hk; rw [hk']; rfl)))
  refine wpAny_pure (wpAny_with_toks (n := s.toks + 1) (Nat.le_refl _) (wpAny_bindParams (s₀ := s) (env := env) _ (fun _ _ _ => rfl) hk r (fun y => if y = n₀ then some v₀ else none) (fun _ => none) _ _ ?_
    (fun y hy => hkind y (List.mem_cons_of_mem _ hy)) fun s' x' htk => wpAny_pure (hQ _ rfl s' (Nat.le_trans (Nat.le_add_left 1 s.toks) htk) ?_)))
  · refine ⟨⟨⟨h', _, rfl⟩, hn', fun b o e => ?_, x.toInCall.fresh⟩, fun k c hc => ?_, x.apart, x.above⟩
    · exact hs'.extBut b o (Nat.ne_of_lt (Nat.lt_of_lt_of_le (Heap.lt_size e) x.toInCall.fresh)) (x.toInCall.keep b o e)
    · exact (x.cell k c hc).sameBut hs' (Nat.ne_of_gt (x.above k c (mem_of_lookup hc)))
  · unfold bindL bindC; rw [if_pos hl, if_pos hl]; exact x'
end

section
variable {prog : Program} {w : World} {A A₀ : Around} {E : Value → Shared → Prop} {s : Shared} {K : Frag} {C L : Addr} {h₀ base : Heap} {m mg mb : PySem.Str → Option Value} {news : List (Addr × Obj)} {p : Program} {loose : List PySem.Str} {mean : ExcName → Option Value} {Q : Value → Shared → Prop}
theorem code_cells {env : Env} {outer : List Env} {R : Result → Shared → Prop} {name qual : PySem.Str} {params : Arguments} {body : List Stmt} {scope : Scope} {dV kV doc pm cdv ct oc : Value} {an od : Option Addr} {osl : Array (Option Value)} {f : Addr} {args : Args} {n₀ : PySem.Str} {v₀ : Value} {r : List (PySem.Str × Value)}
    (B : Below A₀ base outer h₀) (F : Fr h₀ L s.heap m) (X₀ : K.In h₀) (N : News h₀ L s.heap news) (T : Top p loose mean mg mb h₀) (hA : A.frames = some (env :: outer)) (hf : env.frame = some L) (hke : env.scope.kind = .function)
    (ho : K.lookup f = some ⟨oc, od, .func (fnOf name qual params body scope dV kV doc pm an cdv ct), osl⟩) (hcd : codeIn K cdv qual = true) (hroom : A.depth < recursionLimit)
    (hbind : BindsTo s (fnOf name qual params body scope dV kV doc pm an cdv ct) args ((n₀, v₀) :: r)) (h0 : scope.names.lookup n₀ = some .local) (hkind : (((n₀, v₀) :: r).all fun y => scope.names.lookup y.1 == some .local || scope.names.lookup y.1 == some .cell) = true)
    (hnd : ((cellsFrom 0 scope.names []).map (·.1)).Nodup)
    (h : ∀ g L' h₁ tk cells, 1 ≤ tk → Fr h₀ L g m → Fr g L' h₁ (bindL (envOfC qual scope L' f cdv).kindOf ((n₀, v₀) :: r) fun _ => none) → News g L' h₁ (cells ++ news) →
      CellsAre (bindC (envOfC qual scope L' f cdv).kindOf ((n₀, v₀) :: r) fun _ => none) (cellsFrom (L' + 1) scope.names []) cells → Below A base (env :: outer) g → K.In g → Top p loose mean mg mb g → (∀ p ∈ news, p.1 < L') →
      wpAny (model prog w) (A.deeper (envOfC qual scope L' f cdv)) (execs body (envOfC qual scope L' f cdv))
        (fun fl s' => LeaveK h₀ L m g R (match fl with | .ret v => v | _ => .none) s')
        (fun e s' => wpAny (model prog w) (A.deeper (envOfC qual scope L' f cdv)) (leaving (envOfC qual scope L' f cdv) e) (fun _ s'' => R (.error e) s'') (fun e' s'' => R (.error e') s'') s')
        { s with heap := h₁, toks := tk })
    (hco : scope.isCoroutine = false) (hgen : scope.isGenerator = false) (hk : scope.kind = .function) : codeAny (model prog w) A (.call (.ref f) args) R s := by
  obtain ⟨FG, BG, st, lv⟩ := groundX (R := R) B F N hA hf hke
  have hlim := T.nolimit
  refine codeAny_call_function hroom ((X₀.keeps F.keep) _ _ ho) rfl hco hgen rfl (codeRec_of (X₀.keeps F.keep) hcd) (hbind _ _ _ _ ?_)
  refine env_cells hk h0 (kindsX hkind _) fun env' he s' htk x => ?_
  subst he
  refine ⟨(hlim.keeps F.keep).keeps x.toInCall.keep, codeAny_func ?_⟩
  obtain ⟨h₁, tk, rfl, _⟩ := x.done
  have hk₁ := x.toInCall.keep
  obtain ⟨cells, NC, Y⟩ := Cl.news (h₀ := s.heap) (Nat.le_refl _) fun n c hm => ⟨x.cell n c (lookup_of_mem_nodup (cellsFrom_names scope.names 0 (s.heap.objs.size + 1) [] [] rfl ▸ hnd) hm), x.above n c hm⟩
  refine wpAny_mono (h _ s.heap.objs.size h₁ tk cells htk FG ⟨x.toInCall.ns, fun b o e => hk₁ b o (of_hideAll _ e), Nat.le_of_eq (hideAll_size _ _)⟩ (fun p hp => ?_) Y BG (X₀.keeps st) (T.keeps st) (fun p hp => Heap.lt_size (N p hp).1)) (fun fl s' hl => lv _ _ hl) fun _ _ y => y
  rcases List.mem_append.mp hp with hp | hp
  · refine ⟨(NC p hp).1, (NC p hp).2.1, ?_⟩
    cases q : (hideAll s.heap (news.map (·.1))).get? p.1 with
    | none => rfl
    | some o => have := of_hideAll _ q; rw [(NC p hp).2.2] at this; cases this
  · exact ⟨hk₁ _ _ (N p hp).1, Nat.ne_of_lt (Heap.lt_size (N p hp).1), hideAll_none _ (List.mem_map_of_mem hp)⟩
end

/-- a def with cells -/
theorem con_ofC {f : Addr} {du uu : Nat} {w : World} {p : Program} {loose : List PySem.Str} {mean : ExcName → Option Value} {mg mb : PySem.Str → Option Value} {news : List (Addr × Obj)} {vs : List Value}
    {Ret : Heap → Addr → (PySem.Str → Option Value) → Shared → (Value → Shared → Prop) → Prop}
    {name qual : PySem.Str} {params : Arguments} {body : List Stmt} {scope : Scope} {dV kV doc pm cdv ct oc : Value} {an od : Option Addr} {osl : Array (Option Value)} (n₀ : PySem.Str) (v₀ : Value) (r : List (PySem.Str × Value))
    (ho : (hd.heap_39 w.params).lookup f = some ⟨oc, od, .func (fnOf name qual params body scope dV kV doc pm an cdv ct), osl⟩) (hcd : codeIn (hd.heap_39 w.params) cdv qual = true)
    (hbind : ∀ s, BindsTo s (fnOf name qual params body scope dV kV doc pm an cdv ct) ⟨vs, []⟩ ((n₀, v₀) :: r)) (h0 : scope.names.lookup n₀ = some .local)
    (hkind : (((n₀, v₀) :: r).all fun y => scope.names.lookup y.1 == some .local || scope.names.lookup y.1 == some .cell) = true) (hnd : ((cellsFrom 0 scope.names []).map (·.1)).Nodup) (hdu : 1 ≤ du)
    (h : ∀ (dp un : Nat) (gd : Option (List Code)) (cn : PySem.Str) (cs : Scope) (a : Addr) (ccd : Value) (cl : List (PySem.Str × Addr)) (outer : List Env) (base h₀ : Heap) (L : Addr) (m : PySem.Str → Option Value) (s : Shared)
      (Q E : Value → Shared → Prop), dp + du < recursionLimit → un + uu < cLine → cs.kind = .function → Ret h₀ L m s Q →
      ∀ (g : Heap) (L' : Addr) (h₁ : Heap) (tk : Nat) (cells : List (Addr × Obj)), 1 ≤ tk → Fr h₀ L g m → Fr g L' h₁ (bindL (envOfC qual scope L' f cdv).kindOf ((n₀, v₀) :: r) fun _ => none) → News g L' h₁ (cells ++ news) →
      CellsAre (bindC (envOfC qual scope L' f cdv).kindOf ((n₀, v₀) :: r) fun _ => none) (cellsFrom (L' + 1) scope.names []) cells → Below (ktrTop dp un gd cn cs L a ccd cl outer) base (envX cn cs L a ccd cl :: outer) g → (hd.heap_39 w.params).In g → Top p loose mean mg mb g → (∀ p ∈ news, p.1 < L') →
      wpAny (model PySem.Challenge.rw_sc0024_01.row.prog w) ((ktrTop dp un gd cn cs L a ccd cl outer).deeper (envOfC qual scope L' f cdv)) (execs body (envOfC qual scope L' f cdv))
        (fun fl s' => LeaveK h₀ L m g (fun r s' => match r with | .ok (.ret v) => Q v s' | .ok _ => False | .error e => E e s') (match fl with | .ret v => v | _ => .none) s')
        (fun e s' => wpAny (model PySem.Challenge.rw_sc0024_01.row.prog w) ((ktrTop dp un gd cn cs L a ccd cl outer).deeper (envOfC qual scope L' f cdv)) (leaving (envOfC qual scope L' f cdv) e) (fun _ s'' => E e s'') (fun e' s'' => E e' s'') s')
        { s with heap := h₁, toks := tk })
    (hco : scope.isCoroutine = false) (hgen : scope.isGenerator = false) (hk : scope.kind = .function) : Con f du uu w p loose mean mg mb news vs Ret := by
  intro dp un gd cn cs a ccd cl outer A₀ base h₀ L m s Q E B F X N T hkc hd hu ret
  refine wpAny_call (code_cells B F X N T rfl rfl hkc ho hcd (by show dp < _; omega) (hbind s) h0 hkind hnd (fun g L' h₁ tk cells htk FG F' N' Y B' X' T' lv => ?_) hco hgen hk)
  exact h dp un gd cn cs a ccd cl outer base h₀ L m s Q E hd hu hkc ret g L' h₁ _ cells htk FG F' N' Y B' X' T' lv
end Mine

end
/-! F3 -/
section
open PySem PySem.W PyProof.Rows
set_option maxRecDepth 100000
set_option maxHeartbeats 8000000
namespace Mine

theorem rws_mem_len : ∀ l : List Nat, ∀ y ∈ rws l, y.length ≤ l.length := by
  refine q_ind ?_ ?_ ?_ ?_ ?_
  · rw [rws_nil]; intro y hy; simp at hy; subst hy; simp
  · intro r h _ y hy; rw [rws_crlf] at hy
    rcases List.mem_cons.mp hy with rfl | hy
    · simp
    · have := h y hy; simp only [List.length_cons]; omega
  · intro r h y hy; rw [rws_lf] at hy
    rcases List.mem_cons.mp hy with rfl | hy
    · simp
    · have := h y hy; simp only [List.length_cons]; omega
  · intro r h0 h y hy; rw [rws_cr r h0] at hy
    rcases List.mem_cons.mp hy with rfl | hy
    · simp
    · have := h y hy; simp only [List.length_cons]; omega
  · intro c r h1 h2 h y hy
    obtain ⟨b, u, f1, f2⟩ := rws_ord c r h1 h2
    rw [f2] at hy; rw [f1] at h
    rcases List.mem_cons.mp hy with rfl | hy
    · have := h b (List.mem_cons_self ..); simp only [List.length_cons]; omega
    · have := h y (List.mem_cons_of_mem _ hy); simp only [List.length_cons]; omega
theorem told_join (n : Nat) (l : List Nat) : joinL [] ((rws l).map fun r => 13 :: 10 :: (dots n r ++ r)) = told n l := by
  rw [joinL_empty]
  unfold told
  rw [List.flatMap_map]; rfl

local macro_rules | `(tactic| walk_at "asS") => `(tactic| first | with_reducible exact lit_l | with_reducible exact lit_r | with_reducible exact lit_rl | with_reducible exact lit_d | with_reducible exact lit_d2 | with_reducible exact lit_e | with_reducible exact lit_sl | with_reducible exact lit_z | with_reducible exact lit_st | with_reducible exact rfl)
local macro_rules | `(tactic| walk_at "lens") => `(tactic| first | omega | ((simp only [List.length_append, List.length_cons, List.length_nil, List.length_drop, List.length_take, List.length_map, List.length_replicate]); omega) | ((simp only [List.length_append, List.length_cons, List.length_nil, List.length_drop, List.length_take, List.length_map, List.length_replicate] at *); omega))
local macro_rules | `(tactic| walk_at "binaryOp Add str str") => `(tactic| (k_here; (with_reducible show wpAny _ _ (binaryOp Operator.Add (Value.str _ _) (Value.str _ _)) _ _ _); (refine' add_S ?k1 ?k2 ?k3 ?_; (case k1 => walk_at "asS"); (case k2 => walk_at "asS"); (case k3 => walk_at "lens"); (intro t' k' ln'))))
local macro_rules | `(tactic| walk_at "pyIter ref") => `(tactic| (k_here; refine Stopped.here ?_))
local macro_rules | `(tactic| walk_at "eval ListComp") => `(tactic| (k_here; refine Stopped.here ?_))
local macro_rules | `(tactic| walk_at "CompSrc") => `(tactic| (k_here; refine Stopped.here ?_))
local macro_rules | `(tactic| walk_at "call builtin:str.replace") => `(tactic| (k_here; (refine' replace_S ?k1 ?k2 ?k3 ?k4 ?k5 ?k6 ?k7 ?k8 ?k9 ?k0 ?_; (case k4 => walk_at "asS"); (case k5 => walk_at "asS"); (case k6 => walk_at "asS"); (case k7 => decide); (case k8 => decide); (case k9 => walk_at "lens"); (case k0 => walk_at "lens"); (case k1 => (show @Ne Nat _ _); omega); (case k2 => (show @Ne Nat _ _); omega); (case k3 => (show @Ne Nat _ _); omega); (intro t' k' htk'; dsimp only at htk'))))
local macro_rules | `(tactic| walk_at "call builtin:str.split") => `(tactic| (k_here; (refine' split_S ?k1 ?k2 ?k3 ?k4 ?k5 ?k6 ?k7 ?_; (case k1 => k_asm); (case k2 => k_asm); (case k3 => walk_at "asS"); (case k4 => walk_at "asS"); (case k5 => decide); (case k6 => decide); (case k7 => walk_at "lens"); (intro D' vs' h' k' Y' F' N' l1'); (try k_lt l1'); (try k_sweep))))

local macro_rules | `(tactic| walk_at "subscriptTail Name Slice str ref") => `(tactic| (k_here; (with_reducible show wpAny _ _ (subscriptTail _ (Expr.Slice _ _ _ _) (Value.str _ _) (Value.ref _)) _ _ _); (first
  | ((with_reducible show wpAny _ _ (subscriptTail _ (Expr.Slice none (some _) none _) _ _) _ _ _); k_dflt (refine' sl_to (s := ⟨_, _, _, _, _⟩) ?k1 ?k2 ?k3 ?k4 ?k5 ?_ ?k6 ?k7; (case k1 => k_asm); (case k2 => k_asm); (case k3 => walk_at "asS"); (case k4 => exact rfl); (case k5 => walk_at "lens"); (case k6 => with_unfolding_all rfl); (case k7 => intro _; with_unfolding_all rfl)))
  | ((with_reducible show wpAny _ _ (subscriptTail _ (Expr.Slice (some _) none none _) _ _) _ _ _); k_dflt (refine' sl_from (s := ⟨_, _, _, _, _⟩) ?k1 ?k2 ?k3 ?k4 ?k5 ?_ ?k6 ?k7; (case k1 => k_asm); (case k2 => k_asm); (case k3 => walk_at "asS"); (case k4 => exact rfl); (case k5 => walk_at "lens"); (case k6 => with_unfolding_all rfl); (case k7 => intro _; with_unfolding_all rfl)))); intro _ _ _ _ _))
local macro_rules | `(tactic| walk_at "compareOp Eq str str") => `(tactic| (k_here; (with_reducible show wpAny _ _ (compareOp _ (Value.str _ _) (Value.str _ _)) _ _ _); (refine' eq_S ?k1 ?k2 ?_; (case k1 => walk_at "asS"); (case k2 => walk_at "asS"))))

local macro_rules | `(tactic| walk_at "binaryOp Mult str int") => `(tactic| (k_here; (with_reducible show wpAny _ _ (binaryOp Operator.Mult (Value.str _ _) (Value.int _ _)) _ _ _); (refine' mul_S ?k1 ?k2 ?_; (case k1 => walk_at "asS"); (case k2 => omega); (intro _ _))))

theorem told_con (w : World) {p : Program} {loose : List PySem.Str} {mean : ExcName → Option Value} {mg mb : PySem.Str → Option Value} (news : List (Addr × Obj)) (l : List Nat) (t t2 : Tok) (n : Nat) (hl : l.length ≤ 1000) (hn : n ≤ 3) :
    Con 119 2 16 w p loose mean mg mb news [.str (S l) t, .int n t2] (RetStr news (told n l)) := by
  unfold Con
  k_fill
  refine' con_ofC (PySem.Str.ofString "mail") (.str (S l) t) [(PySem.Str.ofString "times", .int n t2)] ?ho ?hcd ?hb ?hl ?hkd ?hnd (by decide) ?h ?c1 ?c2 ?c3
  case ho => exact rfl
  case hcd => exact rfl
  case hb => exact fun s => BindsTo.of_eq rfl
  case hl => exact rfl
  case hkd => exact rfl
  case hnd => decide +kernel
  case c1 => exact rfl
  case c2 => exact rfl
  case c3 => exact rfl
  case h =>
    intro dp un gd cn cs a ccd cl outer base h₀ L m s Q E hd hu hk ret g' L' h' tk cells' htk FG' F' N' Y' B' X' T' l1
    show wpAny _ _ _ _ _ _
    (try k_lt l1)
    k_cells Y'
    simp only [List.cons_append, List.nil_append] at N'
    (try dsimp only)
    have e1 := (spP_len (pat := [13, 10]) l.length l (Nat.le_refl _)).1
    have e2 := (spP_len (pat := [13]) _ (joinL [10] (spP [13, 10] l)) (Nat.le_refl _)).1
    have e3 := (spP_len (pat := [10]) _ (joinL [10] (spP [13] (joinL [10] (spP [13, 10] l)))) (Nat.le_refl _)).2
    show wpAny _ _ _ _ _ _
    k_fold
    k_steps
    unfold Stopped
    refine LCg.ListComp_U (F₀ := by k_asm) (by with_unfolding_all rfl) (by decide) (by rfl) (by decide) (by rfl) ?_
    k_steps
    unfold Stopped
    rw [show spP [10] (joinL [10] (spP [13] (joinL [10] (spP [13, 10] l)))) = rws l from rows_are l] at *
    refine LCg.CompSrc.ledger (by rfl) (by k_asm) (by k_asm) (by k_mem) ?sz ?_
    case sz => rw [List.size_toArray, strs_len (by assumption), PySem.sizeLine_eq]; omega
    intro gg
    refine wc_rest (fun i ys => StrsAre ys ((((rws l).take i).map fun r => 13 :: 10 :: (dots n r ++ r)).map S)) (.inr ⟨_, by k_mem, rfl, _, rfl⟩) ?i0 ?turn ?fin
    case i0 => exact .nil
    case turn =>
      intro i v I oI C oC D m₂ ys h tk E' hi hv hI hC hx F N off ne
      simp only [List.getElem?_toArray] at hv
      obtain ⟨y, ty, hy, rfl⟩ := strs_at (by assumption) hv
      have ly : y.length ≤ l.length := rws_mem_len l y (List.mem_of_getElem? hy)
      (try simp only [LCg.Off3, and_true] at off)
      dsimp only
      k_steps
      all_goals
        unfold Stopped
        dsimp only
        refine' CEnd.intro ?z1 ?z2 ?z3 ?z4
        case z1 => k_asm
        case z2 => k_asm
        case z3 => exact fun p h => h
        case z4 =>
          refine strs_step hI hy ?_
          unfold dots
          first | (with_reducible rename List.take 1 y = [46] => hd) | (with_reducible rename ¬ List.take 1 y = [46] => hd)
          first | rw [if_pos hd] | rw [if_neg hd]
          rfl
    case fin =>
      intro ys hI
      rw [List.size_toArray, strs_len (by assumption), List.take_length] at hI
      unfold LCg.FinE
      intro D2 h2 tk2 F2 N2 o2
      (try simp only [LCg.Off1, and_true] at o2)
      dsimp only
      k_steps
      refine' join_S ?j1 ?j2 hI ?j3 ?j4 ?_
      case j1 => k_asm
      case j2 => k_mem
      case j3 => walk_at "asS"
      case j4 =>
        have h1 := sum_le (5 + l.length) ((rws l).map fun r => 13 :: 10 :: (dots n r ++ r)) (by
          intro y hy
          obtain ⟨r, hr, rfl⟩ := List.mem_map.mp hy
          have h2 := rws_mem_len l r hr
          have h3 : (dots n r).length ≤ n := by unfold dots; split <;> simp
          simp only [List.length_cons, List.length_append]; omega)
        rw [List.length_map] at h1
        have h4 : (rws l).length * (5 + l.length) ≤ 4001 * 1005 := Nat.mul_le_mul (by omega) (by omega)
        simp only [List.length_nil, Nat.mul_zero]
        omega
      rw [told_join]
      intro t9 k9
      k_steps
      refine' leaveK_ ?d1 ?d2 ?_
      case d1 => k_asm
      case d2 => k_asm
      intro kF kN
      refine ret _ _ _ kF fun p hp => kN p ?_
      simp only [List.mem_cons, hp, or_true]
end Mine

end
/-! F4 -/
section
open PySem PySem.W PyProof.Rows
set_option maxRecDepth 100000
set_option maxHeartbeats 8000000
namespace Mine

local macro_rules | `(tactic| walk_at "enter") => `(tactic| (refine' code_def ?k1 ?k2 ?k3 ?k4 ?k5 ?kA ?kF ?kK ?k6 ?k7 ?k8 ?k9 ?kB ?_ ?c2 ?c3 ?c4 ?c5; (case kA => exact rfl); (case kF => exact rfl); (case kK => first | exact rfl | assumption); (case k1 => k_asm); (case k2 => k_asm); (case k3 => k_asm); (case k4 => k_asm); (case k5 => k_asm); (case k6 => k_is); (case k7 => k_is); (case k8 => ktr_room); (case k9 => exact BindsTo.of_eq rfl); (case c5 => decide); (case kB => exact locs rfl); (case c2 => exact rfl); (case c3 => exact rfl); (case c4 => exact rfl); k_whole; intro g' L' h' FG' F' N' B' X' T'; (try dsimp only); (try k_fold)))
local macro_rules | `(tactic| walk_at "call ref") => `(tactic| (k_here; (try dsimp only [List.nil_append]); k_dflt (refine' call_cls ?k1 ?k2 ?k3 ?k4 ?k5 ?k6 ?_; (case k1 => k_asm); (case k2 => k_asm); (case k3 => k_asm); (case k4 => k_is); (case k5 => k_is); (case k6 => k_is); k_whole; intro x' d' h' F' N' l1 l2; (try k_lt l1); (try k_lt2 l2); (try k_sweep); walk_at "enter")))

abbrev entryD (w : World) (t1 t2 t3 t4 : Tok) (U R : Addr) : Obj :=
  dictOf [{ hash := PyData.keyHash w.params "useragents", key := .str "useragents" t1, val := .ref U }, { hash := PyData.keyHash w.params "rulelines", key := .str "rulelines" t2, val := .ref R },
    { hash := PyData.keyHash w.params "delay", key := .str "delay" t3, val := .none }, { hash := PyData.keyHash w.params "req_rate", key := .str "req_rate" t4, val := .none }] 4
abbrev RetRec (w : World) (news : List (Addr × Obj)) (vs : List Value) (h₀ : Heap) (L : Addr) (m : PySem.Str → Option Value) (s : Shared) (Q : Value → Shared → Prop) : Prop :=
  ∀ (x d U R : Addr) (t1 t2 t3 t4 : Tok) (c : Nat) (h' : Heap) (tk' : Nat), Fr h₀ L h' m → News h₀ L h' ((R, listOf #[] 0) :: (U, listOf vs.toArray c) :: (x, instObj 76 d) :: (d, entryD w t1 t2 t3 t4 U R) :: news) → Q (.ref x) { s with heap := h', toks := tk' }
theorem record_con (w : World) {p : Program} {loose : List PySem.Str} {mean : ExcName → Option Value} {mg mb : PySem.Str → Option Value} (news : List (Addr × Obj)) (a0 : Addr) (vs : List Value) (c : Nat) (ys : List (List Nat)) (hm : (a0, listOf vs.toArray c) ∈ news) (hs : StrsAre vs (ys.map S)) (hlen : vs.length ≤ 1000) :
    Con 126 3 16 w p loose mean mg mb news [.ref a0] (RetRec w news vs) := by
  unfold Con
  k_fill
  refine' con_of [(PySem.Str.ofString "agents", .ref a0)] ?ho ?hcd ?hb ?hl (by decide) ?h ?c1 ?c2 ?c3 ?c4
  case ho => exact rfl
  case hcd => exact rfl
  case hb => exact fun s => BindsTo.of_eq rfl
  case hl => exact locs rfl
  case c1 => exact rfl
  case c2 => exact rfl
  case c3 => exact rfl
  case c4 => decide
  case h =>
    intro dp un gd cn cs a ccd cl outer base h₀ L m s Q E hd hu hk ret g' L' h' tk FG' F' N' B' X' T'
    show wpAny _ _ _ _ _ _
    k_fold
    k_steps
    have hsz : vs.toArray.size ≤ 1000 := by rw [List.size_toArray]; exact hlen
    by_cases hv : vs = []
    · subst hv
      refine' kxn_extend (its := #[]) ?F ?N (.tail _ (.tail _ (.tail _ (.tail _ hm)))) rfl ?U ?d ?z ?y ?_
      case F => k_asm
      case N => k_asm
      case U => k_upd
      case d => decide
      case z => rw [PySem.sizeLine_eq]; decide
      case y => rw [PySem.sizeLine_eq]; decide
      intro h9 F9 N9
      dsimp only at N9
      k_steps
      refine' leaveK_ ?d1 ?d2 ?_
      case d1 => k_asm
      case d2 => k_asm
      intro kF kN
      exact ret _ _ _ _ _ _ _ _ _ _ _ kF kN
    · refine' kl_extend (l := vs) (its := #[]) ?F ?N (.tail _ (.tail _ (.tail _ (.tail _ hm)))) ?e ?ne ?U ?d ?z ?y ?_
      case F => k_asm
      case N => k_asm
      case e => simp
      case ne => simpa using hv
      case U => k_upd
      case d => simp
      case z => rw [PySem.sizeLine_eq]; simp
      case y => rw [PySem.sizeLine_eq]; show 0 + _ ≤ _; omega
      intro h9 F9 N9
      dsimp only at N9
      k_steps
      refine' leaveK_ ?d1 ?d2 ?_
      case d1 => k_asm
      case d2 => k_asm
      intro kF kN
      exact ret _ _ _ _ _ _ _ _ _ _ _ kF kN
end Mine

end
/-! F5 -/
section
open PySem PySem.W PyProof.Rows
set_option maxRecDepth 100000
set_option maxHeartbeats 8000000
namespace Mine

local macro_rules | `(tactic| walk_at "asS") => `(tactic| first | with_reducible exact lit_l | with_reducible exact lit_r | with_reducible exact lit_rl | with_reducible exact lit_d | with_reducible exact lit_d2 | with_reducible exact lit_e | with_reducible exact lit_sl | with_reducible exact lit_z | with_reducible exact lit_st | with_reducible exact rfl)
local macro_rules | `(tactic| walk_at "lens") => `(tactic| first | omega | ((simp only [List.length_append, List.length_cons, List.length_nil, List.length_drop, List.length_take, List.length_map, List.length_replicate]); omega) | ((simp only [List.length_append, List.length_cons, List.length_nil, List.length_drop, List.length_take, List.length_map, List.length_replicate] at *); omega))
local macro_rules | `(tactic| walk_at "pyIter ref") => `(tactic| (k_here; refine Stopped.here ?_))
local macro_rules | `(tactic| walk_at "call builtin:str.split") => `(tactic| (k_here; (refine' split_S ?k1 ?k2 ?k3 ?k4 ?k5 ?k6 ?k7 ?_; (case k1 => k_asm); (case k2 => k_asm); (case k3 => walk_at "asS"); (case k4 => walk_at "asS"); (case k5 => decide); (case k6 => decide); (case k7 => walk_at "lens"); (intro D' vs' h' k' Y' F' N' l1'); (try k_lt l1'); (try k_sweep))))

local macro_rules | `(tactic| walk_at "compareOp NotEq str str") => `(tactic| (k_here; (with_reducible show wpAny _ _ (compareOp _ (Value.str _ _) (Value.str _ _)) _ _ _); k_dflt (refine' ne_S ?k1 ?k2 ?_; (case k1 => walk_at "asS"); (case k2 => walk_at "asS"))))
local macro_rules | `(tactic| walk_at "compareOp In str str") => `(tactic| (k_here; (with_reducible show wpAny _ _ (compareOp _ (Value.str _ _) (Value.str _ _)) _ _ _); k_dflt (refine' in_S ?k1 ?k2 ?_; (case k1 => walk_at "asS"); (case k2 => walk_at "asS"))))
local macro_rules | `(tactic| walk_at "call builtin:str.lower") => `(tactic| (k_here; k_dflt (refine' lower_S ?k1 ?k2 ?k3 ?_; (case k1 => walk_at "asS"); (case k2 => assumption); (case k3 => walk_at "lens"); (intro t' k'))))

theorem none_con (w : World) {p : Program} {loose : List PySem.Str} {mean : ExcName → Option Value} {mg mb : PySem.Str → Option Value} (news : List (Addr × Obj)) (x d U R : Addr) (t1 t2 t3 t4 : Tok) (vs : List Value) (c : Nat) (ys : List (List Nat)) (hs : StrsAre vs (ys.map S)) (hlen : vs.length ≤ 1000) :
    Con 66 3 16 w p loose mean mg mb ((x, instObj 76 d) :: (d, entryD w t1 t2 t3 t4 U R) :: (U, listOf vs.toArray c) :: news) [.ref x, .none]
      (RetBool ((x, instObj 76 d) :: (d, entryD w t1 t2 t3 t4 U R) :: (U, listOf vs.toArray c) :: news) (ys.contains [42])) := by
  unfold Con
  k_fill
  refine' con_of [(PySem.Str.ofString "self", .ref x), (PySem.Str.ofString "useragent", .none)] ?ho ?hcd ?hb ?hl (by decide) ?h ?c1 ?c2 ?c3 ?c4
  case ho => exact rfl
  case hcd => exact rfl
  case hb => exact fun s => BindsTo.of_eq rfl
  case hl => exact locs rfl
  case c1 => exact rfl
  case c2 => exact rfl
  case c3 => exact rfl
  case c4 => decide
  case h =>
    intro dp un gd cn cs a ccd cl outer base h₀ L m s Q E hd hu hk ret g' L' h' tk FG' F' N' B' X' T'
    show wpAny _ _ _ _ _ _
    k_fold
    k_steps
    have e1 : ((List.map S ys).any fun x => x == PySem.Str.ofString "*") = ys.contains [42] := by
      rw [lit_st, List.any_map, List.contains_eq_any_beq]
      congr 1
      funext y
      show (S y == S [42]) = ([42] == y)
      rw [eqb_S, Bool.eq_iff_iff, decide_eq_true_iff, beq_iff_eq, eq_comm]
    rw [e1]
    dsimp only
    k_steps
    refine' leaveK_ ?d1 ?d2 ?_
    case d1 => k_asm
    case d2 => k_asm
    intro kF kN
    exact ret _ _ kF kN

theorem appl_con (w : World) {p : Program} {loose : List PySem.Str} {mean : ExcName → Option Value} {mg mb : PySem.Str → Option Value} (news : List (Addr × Obj)) (x d U R : Addr) (t1 t2 t3 t4 : Tok) (vs : List Value) (c : Nat) (ys : List (List Nat)) (hs : StrsAre vs (ys.map S)) (hlen : vs.length ≤ 1000)
    (hA : ∀ y ∈ ys, y.length ≤ 1000 ∧ ∀ c ∈ y, c < 128) (l : List Nat) (t : Tok) (hl : l.length ≤ 100000) (hlA : ∀ c ∈ l, c < 128) :
    Con 66 3 16 w p loose mean mg mb ((x, instObj 76 d) :: (d, entryD w t1 t2 t3 t4 U R) :: (U, listOf vs.toArray c) :: news) [.ref x, .str (S l) t]
      (RetBool ((x, instObj 76 d) :: (d, entryD w t1 t2 t3 t4 U R) :: (U, listOf vs.toArray c) :: news) (appl ys l)) := by
  unfold Con
  k_fill
  refine' con_of [(PySem.Str.ofString "self", .ref x), (PySem.Str.ofString "useragent", .str (S l) t)] ?ho ?hcd ?hb ?hl (by decide) ?h ?c1 ?c2 ?c3 ?c4
  case ho => exact rfl
  case hcd => exact rfl
  case hb => exact fun s => BindsTo.of_eq rfl
  case hl => exact locs rfl
  case c1 => exact rfl
  case c2 => exact rfl
  case c3 => exact rfl
  case c4 => decide
  case h =>
    intro dp un gd cn cs a ccd cl outer base h₀ L m s Q E hd hu hk ret g' L' h' tk FG' F' N' B' X' T'
    show wpAny _ _ _ _ _ _
    k_fold
    k_steps
    obtain ⟨ht9, hh9⟩ := head_slash l
    refine' item_S (n := 0) (y' := l.takeWhile fun c => decide (c ≠ 47)) ?s1 (.head _) (by assumption) rfl (by decide) ?s2 ?_ ?s3
    case s1 => k_asm
    case s2 => rw [hh9]; rfl
    case s3 => with_unfolding_all rfl
    intro t9
    k_steps
    have eu : appl ys l = ys.any fun a => decide (a ≠ [42]) && inb (a.map low) ((l.takeWhile fun c => decide (c ≠ 47)).map low) := rfl
    rw [eu] at ret
    have hU : (l.takeWhile fun c => decide (c ≠ 47)).length ≤ l.length := (List.takeWhile_sublist _).length_le
    have hUA : ∀ c ∈ (l.takeWhile fun c => decide (c ≠ 47)), c < 128 := fun c hc => hlA c ((List.takeWhile_sublist _).subset hc)
    clear hh9
    generalize (l.takeWhile fun c => decide (c ≠ 47)) = u at *
    refine' lower_S (l := u) rfl hUA (by omega) ?_
    intro t8 k8
    k_steps
    unfold Stopped
    refine wl_list (σ := Unit) (fun _ => (x, instObj 76 d) :: (d, entryD w t1 t2 t3 t4 U R) :: (U, listOf vs.toArray c) :: news) (fun _ => []) [] (fun i _ => ((ys.take i).any fun a => decide (a ≠ [42]) && inb (a.map low) (u.map low)) = false) () rfl (fun _ _ _ => .tail _ (.tail _ (.head _))) (by k_asm) ?hN ?hk rfl ?turn ?done
    case hN => exact fun p hp => (by assumption : News g' L' _ _) p (.tail _ hp)
    case hk => kst_all
    case turn =>
      rintro ⟨⟩ i v u9 h9 tk9 I oI hv hR hne F9 N9
      obtain ⟨y, ty, hy, rfl⟩ := strs_at hs hv
      obtain ⟨hy1, hy2⟩ := hA y (List.mem_of_getElem? hy)
      dsimp only [kstB] at F9
      show wpAny _ _ _ _ _ _
      k_fold
      k_steps
      rotate_left
      · dsimp only
        k_steps
        unfold TurnEnd
        dsimp only
        k_steps
        have hin : inb (y.map low) (u.map low) = true := by assumption
        have hny : ¬ y = [42] := by assumption
        have : (ys.any fun a => decide (a ≠ [42]) && inb (a.map low) (u.map low)) = true := List.any_eq_true.mpr ⟨y, List.mem_of_getElem? hy, by simp [hin, hny]⟩
        rw [this] at ret
        refine' leaveK_ ?d1 ?d2 ?_
        case d1 => k_asm
        case d2 => k_asm
        intro kF kN
        exact ret _ _ kF fun p hp => kN p (.tail _ hp)
      all_goals
        refine' TurnEnd.next (c := ()) ?e1 ?e2 ?e3 ?e4 ?e5 ?e6 ?e7 ?e8
        case e1 => k_asm
        case e2 => k_asm
        case e3 => exact .head _
        case e4 => exact fun p h => .tail _ h
        case e6 => kst_all
        case e5 => exact hne
        case e7 => kst_same
        case e8 =>
          rw [List.take_add_one, hy, List.any_append, hR]
          first
          | (have h42 : y = [42] := by assumption
             simp [h42])
          | (have hin : inb (y.map low) (u.map low) = false := by assumption
             simp [hin])
    case done =>
      rintro ⟨⟩ u9 h9 tk9 hR F9 N9
      dsimp only [kstB] at F9
      rw [strs_len hs, List.take_length] at hR
      rw [hR] at ret
      k_steps
      refine' leaveK_ ?d1 ?d2 ?_
      case d1 => k_asm
      case d2 => k_asm
      intro kF kN
      exact ret _ _ kF kN
end Mine

end
/-! Use -/
section
open PySem PySem.W PyProof.Rows
set_option maxRecDepth 100000
set_option maxHeartbeats 4000000
namespace Mine
/-- a contract over another ledger -/
theorem Con.over {f : Addr} {du uu du' uu' : Nat} {w : World} {p : Program} {loose : List PySem.Str} {mean : ExcName → Option Value} {mg mb : PySem.Str → Option Value} {news news' : List (Addr × Obj)} {vs : List Value}
    {Ret Ret' : Heap → Addr → (PySem.Str → Option Value) → Shared → (Value → Shared → Prop) → Prop} (C : Con f du uu w p loose mean mg mb news' vs Ret') (h1 : ∀ q ∈ news', q ∈ news) (hd : du ≤ du') (hu : uu ≤ uu')
    (h2 : ∀ h₀ L m s Q, Ret h₀ L m s Q → Ret' h₀ L m s Q) : Con f du' uu' w p loose mean mg mb news vs Ret := by
  intro dp un gd cn cs a ccd cl outer A₀ base h₀ L m s Q E B F X N T hk hdp hun ret
  exact C dp un gd cn cs a ccd cl outer A₀ base h₀ L m s Q E B F X (fun q hq => N q (h1 q hq)) T hk (by omega) (by omega) (h2 _ _ _ _ _ ret)
section
variable (w : World) {p : Program} {loose : List PySem.Str} {mean : ExcName → Option Value} {mg mb : PySem.Str → Option Value} {news : List (Addr × Obj)}
/-- the record's parts lie in the ledger -/
def RecIn (w : World) (news : List (Addr × Obj)) (x : Addr) (vs : List Value) : Prop :=
  ∃ (d U R : Addr) (t1 t2 t3 t4 : Tok) (c : Nat), (x, instObj 76 d) ∈ news ∧ (d, entryD w t1 t2 t3 t4 U R) ∈ news ∧ (U, listOf vs.toArray c) ∈ news
theorem RecIn.mono {news' : List (Addr × Obj)} {x : Addr} {vs : List Value} (h : RecIn w news x vs) (hs : ∀ q ∈ news, q ∈ news') : RecIn w news' x vs := by
  obtain ⟨d, U, R, t1, t2, t3, t4, c, h1, h2, h3⟩ := h
  exact ⟨d, U, R, t1, t2, t3, t4, c, hs _ h1, hs _ h2, hs _ h3⟩
theorem none_use {x : Addr} {vs : List Value} {ys : List (List Nat)} (hr : RecIn w news x vs) (hs : StrsAre vs (ys.map S)) (hlen : vs.length ≤ 1000) :
    Con 66 3 16 w p loose mean mg mb news [.ref x, .none] (RetBool news (ys.contains [42])) := by
  obtain ⟨d, U, R, t1, t2, t3, t4, c, h1, h2, h3⟩ := hr
  refine Con.over (none_con w news x d U R t1 t2 t3 t4 vs c ys hs hlen) (fun q hq => ?_) (Nat.le_refl _) (Nat.le_refl _) fun h₀ L m s Q ret h' tk' F N => ret h' tk' F fun q hq => N q (.tail _ (.tail _ (.tail _ hq)))
  rcases List.mem_cons.mp hq with rfl | hq
  · exact h1
  rcases List.mem_cons.mp hq with rfl | hq
  · exact h2
  rcases List.mem_cons.mp hq with rfl | hq
  · exact h3
  exact hq
theorem appl_use {x : Addr} {vs : List Value} {ys : List (List Nat)} (hr : RecIn w news x vs) (hs : StrsAre vs (ys.map S)) (hlen : vs.length ≤ 1000)
    (hA : ∀ y ∈ ys, y.length ≤ 1000 ∧ ∀ c ∈ y, c < 128) (l : List Nat) (t : Tok) (hl : l.length ≤ 100000) (hlA : ∀ c ∈ l, c < 128) :
    Con 66 3 16 w p loose mean mg mb news [.ref x, .str (S l) t] (RetBool news (appl ys l)) := by
  obtain ⟨d, U, R, t1, t2, t3, t4, c, h1, h2, h3⟩ := hr
  refine Con.over (appl_con w news x d U R t1 t2 t3 t4 vs c ys hs hlen hA l t hl hlA) (fun q hq => ?_) (Nat.le_refl _) (Nat.le_refl _) fun h₀ L m s Q ret h' tk' F N => ret h' tk' F fun q hq => N q (.tail _ (.tail _ (.tail _ hq)))
  rcases List.mem_cons.mp hq with rfl | hq
  · exact h1
  rcases List.mem_cons.mp hq with rfl | hq
  · exact h2
  rcases List.mem_cons.mp hq with rfl | hq
  · exact h3
  exact hq
end
end Mine

end
/-! Rules2 -/
section
open PySem PySem.W PyProof.Rows
set_option maxRecDepth 100000
set_option maxHeartbeats 1000000
namespace Mine

theorem S_inj {a b : List Nat} (h : S a = S b) : a = b := congrArg (fun q : PySem.Str => q.cps.toList) h
theorem t_can {ns : List (List Nat)} (h : ∀ y ∈ ns, ∀ c ∈ y, c < 128) : PyData.canLayAll0 ((ns.map S).map PyData.str) = true := by
  rw [canLayAll_strs', List.all_eq_true]
  intro x hx
  obtain ⟨y, hy, rfl⟩ := List.mem_map.mp hx
  unfold PyData.strOk
  rw [Array.all_eq_true_iff_forall_mem]
  intro c hc
  have := h y hy c (by simpa using hc)
  simp; omega
theorem t_depth : ∀ ns : List PySem.Str, PyData.depthAll (ns.map PyData.str) = 0
  | [] => rfl
  | _ :: r => by simp [PyData.depthAll, PyData.depth, t_depth r]
theorem t_shaped {ns : List (List Nat)} (h : ∀ y ∈ ns, ∀ c ∈ y, c < 128) : SeqAt.shaped (.list ((ns.map S).map PyData.str)) = true := by
  have h1 := t_can h
  have h2 := t_depth (ns.map S)
  simp only [SeqAt.shaped, PyData.canLay0, PyData.depth, h1, h2]; rfl
theorem t_sameAll : ∀ ns ms : List (List Nat), PySem.Spec.sameAll ((ns.map S).map PyData.str) ((ms.map S).map PyData.str) = decide (ns = ms)
  | [], [] => by simp [PySem.Spec.sameAll]
  | [], _ :: _ => by simp [PySem.Spec.sameAll]
  | _ :: _, [] => by simp [PySem.Spec.sameAll]
  | a :: r, b :: t => by
    simp only [List.map_cons, PySem.Spec.sameAll, PySem.Spec.same, t_sameAll r t]
    by_cases h : a = b
    · subst h; by_cases h' : r = t <;> simp [h']
    · have : ¬ S a = S b := fun e => h (S_inj e)
      simp [h, this]
theorem t_same (ns ms : List (List Nat)) : PySem.Spec.same (.list ((ns.map S).map PyData.str)) (.list ((ms.map S).map PyData.str)) = decide (ns = ms) := by
  simp only [PySem.Spec.same]; exact t_sameAll ns ms
theorem take1_head (l : List Nat) (c : Nat) : l.take 1 = [c] ↔ l.head? = some c := by cases l <;> simp
theorem last1 (l : List Nat) (c : Nat) : l.drop (l.length - 1) = [c] ↔ l.getLast? = some c := by
  rcases List.eq_nil_or_concat l with rfl | ⟨a, b, rfl⟩
  · simp
  · rw [List.concat_eq_append]
    simp
theorem lt_of_all {d : Addr} (l : List (Addr × Obj)) : AllLt d l → ∀ p ∈ l, p.1 < d := by
  induction l with
  | nil => intro _ p hp; exact absurd hp List.not_mem_nil
  | cons a r ih =>
    intro h p hp
    rcases List.mem_cons.mp hp with e | hp
    · rw [e]; exact h.1
    · exact ih h.2 p hp
theorem front1_T {l : List Nat} (h : l.take 1 = [10]) : [13] ++ l = front1 l := by
  unfold front1; rw [if_pos ((take1_head l 10).mp h)]; rfl
theorem front1_F {l : List Nat} (h : ¬ l.take 1 = [10]) : l = front1 l := by
  unfold front1; rw [if_neg fun e => h ((take1_head l 10).mpr e)]
theorem back1_T {l : List Nat} (h : l.drop (l.length - 1) = [13]) : l ++ [10] = back1 l := by
  unfold back1; rw [if_pos ((last1 l 13).mp h)]
theorem back1_F {l : List Nat} (h : ¬ l.drop (l.length - 1) = [13]) : l = back1 l := by
  unfold back1; rw [if_neg fun e => h ((last1 l 13).mpr e)]
theorem any_F {α : Type} {p : α → Bool} {l : List α} (h : l.filter p = []) : l.any p = false := by
  rw [List.any_eq_false]; exact List.filter_eq_nil_iff.mp h
theorem any_T {α : Type} {p : α → Bool} {l : List α} (h : ¬ l.filter p = []) : l.any p = true := by
  cases e : l.any p with
  | true => rfl
  | false => exact absurd (List.filter_eq_nil_iff.mpr (List.any_eq_false.mp e)) h
theorem filt_T {p : List Nat → Bool} {xs : List (List Nat)} {y : List Nat} {ys : List Value} {i : Nat} {t : Tok} (hI : StrsAre ys (((xs.take i).filter p).map S)) (hy : xs[i]? = some y) (hb : p y = true) :
    StrsAre (ys ++ [.str (S y) t]) (((xs.take (i + 1)).filter p).map S) := by
  rw [List.take_add_one, hy, List.filter_append]
  have : (some y).toList.filter p = [y] := by simp [hb]
  rw [this]
  exact strs_append hI (strs_one _ _)
theorem filt_F {p : List Nat → Bool} {xs : List (List Nat)} {y : List Nat} {ys : List Value} {i : Nat} (hI : StrsAre ys (((xs.take i).filter p).map S)) (hy : xs[i]? = some y) (hb : p y = false) :
    StrsAre ys (((xs.take (i + 1)).filter p).map S) := by
  rw [List.take_add_one, hy, List.filter_append]
  have : (some y).toList.filter p = [] := by simp [hb]
  rw [this, List.append_nil]
  exact hI
theorem inb_one (c : Nat) (l : List Nat) : inb [c] l = l.contains c := by
  rw [Bool.eq_iff_iff, inb_iff, List.contains_iff_mem]
  constructor
  · intro h; exact h.subset (List.mem_singleton.mpr rfl)
  · intro h
    obtain ⟨a, b, rfl⟩ := List.append_of_mem h
    exact ⟨a, b, by simp⟩
theorem lone_T1 {y : List Nat} (h : inb [13] y = true) : lone y = true := by unfold lone; rw [← inb_one, h]; rfl
theorem lone_T2 {y : List Nat} (h : inb [10] y = true) : lone y = true := by unfold lone; rw [← inb_one 10, h, Bool.or_true]
theorem lone_F {y : List Nat} (h : inb [13] y = false) (h2 : inb [10] y = false) : lone y = false := by unfold lone; rw [← inb_one, ← inb_one, h, h2]; rfl
section
variable {prog : Program} {w : World} {A : Around} {E : Value → Shared → Prop} {s : Shared} {h₀ : Heap} {L : Addr} {m : PySem.Str → Option Value} {news : List (Addr × Obj)} {a b : Addr} {xs ys : List Value} {ns ms : List (List Nat)} {c d : Nat} {Q : Value → Shared → Prop}
theorem ne_texts (N : News h₀ L s.heap news) (ha : (a, ({ cls := .type "list", data := .seq xs.toArray c } : Obj)) ∈ news) (hb : (b, ({ cls := .type "list", data := .seq ys.toArray d } : Obj)) ∈ news) (hi : StrsAre xs (ns.map S)) (hj : StrsAre ys (ms.map S)) (hx : ∀ y ∈ ns, ∀ c ∈ y, c < 128) (hy : ∀ y ∈ ms, ∀ c ∈ y, c < 128) (hu : A.units + 64 < cLine) (h : Q (.bool (!decide (ns = ms))) s) :
    wpAny (model prog w) A (compareOp .NotEq (.ref a) (.ref b)) Q E s :=
  ne_dataH_same (reads_newData ⟨_, (N _ ha).1, rfl, c, rfl⟩ hi.carried) (reads_newData ⟨_, (N _ hb).1, rfl, d, rfl⟩ hj.carried) (t_shaped hx) (t_shaped hy) hu (SeqAt.noMix_of_shape (.list .str) rfl _ _ (list_map_has fun _ => rfl) (list_map_has fun _ => rfl)) (by rw [t_same]; exact h)
theorem eq_texts (N : News h₀ L s.heap news) (ha : (a, ({ cls := .type "list", data := .seq xs.toArray c } : Obj)) ∈ news) (hb : (b, ({ cls := .type "list", data := .seq ys.toArray d } : Obj)) ∈ news) (hi : StrsAre xs (ns.map S)) (hj : StrsAre ys (ms.map S)) (hx : ∀ y ∈ ns, ∀ c ∈ y, c < 128) (hy : ∀ y ∈ ms, ∀ c ∈ y, c < 128) (hu : A.units + 64 < cLine) (h : Q (.bool (decide (ns = ms))) s) :
    wpAny (model prog w) A (compareOp .Eq (.ref a) (.ref b)) Q E s :=
  eq_dataH_same (reads_newData ⟨_, (N _ ha).1, rfl, c, rfl⟩ hi.carried) (reads_newData ⟨_, (N _ hb).1, rfl, d, rfl⟩ hj.carried) (t_shaped hx) (t_shaped hy) hu (SeqAt.noMix_of_shape (.list .str) rfl _ _ (list_map_has fun _ => rfl) (list_map_has fun _ => rfl)) (by rw [t_same]; exact h)
theorem cut {α : Type} {M : Model} {t : Sem α} (J : α → Shared → Prop) {Q : α → Shared → Prop} (h1 : wpAny M A t J E s) (h2 : ∀ a s', J a s' → Q a s') : wpAny M A t Q E s := wpAny_mono h1 h2 fun _ _ e => e
/-- in a statement: go on, the name x now a text -/
def Named (h₀ : Heap) (L : Addr) (news : List (Addr × Obj)) (x : PySem.Str) (v : List Nat) (m₀ : PySem.Str → Option Value) (s : Shared) (f : Flow) (s' : Shared) : Prop :=
  f = .next ∧ ∃ t h' tk', s' = { s with heap := h', toks := tk' } ∧ Fr h₀ L h' (fun y => if y = x then some (.str (S v) t) else m₀ y) ∧ News h₀ L h' news
theorem named_as {x : PySem.Str} {v : List Nat} {t : Tok} {m₀ : PySem.Str → Option Value} {h' : Heap} {tk' : Nat} (F : Fr h₀ L h' m₀) (N : News h₀ L h' news) (hm : m₀ x = some (.str (S v) t)) : Named h₀ L news x v m₀ s .next { s with heap := h', toks := tk' } := by
  refine ⟨rfl, t, h', tk', rfl, ?_, N⟩
  have e : (fun y => if y = x then some (.str (S v) t) else m₀ y) = m₀ := funext fun y => by
    by_cases h : y = x
    · subst h; rw [if_pos rfl, hm]
    · rw [if_neg h]
  rw [e]; exact F
theorem named_new {x : PySem.Str} {v v' : List Nat} {t : Tok} {m₀ : PySem.Str → Option Value} {h' : Heap} {tk' : Nat} (F : Fr h₀ L h' (fun y => if y = x then some (.str (S v') t) else m₀ y)) (N : News h₀ L h' news) (hv : v' = v) : Named h₀ L news x v m₀ s .next { s with heap := h', toks := tk' } := by
  subst hv; exact ⟨rfl, t, h', tk', rfl, F, N⟩
theorem if_named {M : Model} {t : Sem Flow} {Q : Flow → Shared → Prop} (x : PySem.Str) (v : List Nat) (F : Fr h₀ L s.heap m) (N : News h₀ L s.heap news) (h1 : wpAny M A t (fun f s' => Stopped (Named h₀ L news x v m s f s')) E s)
    (h2 : ∀ t h' tk', Fr h₀ L h' (fun y => if y = x then some (.str (S v) t) else m y) → News h₀ L h' news → Q .next { s with heap := h', toks := tk' }) : wpAny M A t Q E s := by
  refine wpAny_mono h1 (fun f s' hn => ?_) fun _ _ e => e
  obtain ⟨rfl, t, h', tk', rfl, F', N'⟩ := hn
  exact h2 t h' tk' F' N'
/-- in a statement: go on, the name x now a list of texts -/
def Listed (h₀ : Heap) (L : Addr) (base : List (Addr × Obj)) (x : PySem.Str) (ys : List (List Nat)) (m₀ : PySem.Str → Option Value) (s : Shared) (f : Flow) (s' : Shared) : Prop :=
  f = .next ∧ ∃ D vs c h' tk', s' = { s with heap := h', toks := tk' } ∧ Fr h₀ L h' (fun y => if y = x then some (.ref D) else m₀ y) ∧ News h₀ L h' ((D, listOf vs.toArray c) :: base) ∧ StrsAre vs (ys.map S) ∧ ∀ p ∈ base, p.1 < D
theorem listed_as {base led : List (Addr × Obj)} {x : PySem.Str} {D : Addr} {vs : List Value} {c : Nat} {ys : List (List Nat)} {m₀ : PySem.Str → Option Value} {h' : Heap} {tk' : Nat} (F : Fr h₀ L h' m₀) (N : News h₀ L h' led) (hm : m₀ x = some (.ref D))
    (h1 : (D, ({ cls := .type "list", data := .seq vs.toArray c } : Obj)) ∈ led) (h2 : ∀ p ∈ base, p ∈ led) (hs : StrsAre vs (ys.map S)) (hlt : ∀ p ∈ base, p.1 < D) : Listed h₀ L base x ys m₀ s .next { s with heap := h', toks := tk' } := by
  refine ⟨rfl, D, vs, c, h', tk', rfl, ?_, fun p hp => (List.mem_cons.mp hp).elim (fun e => N p (e ▸ h1)) fun h => N p (h2 p h), hs, hlt⟩
  have e : (fun y => if y = x then some (.ref D) else m₀ y) = m₀ := funext fun y => by
    by_cases h : y = x
    · subst h; rw [if_pos rfl, hm]
    · rw [if_neg h]
  rw [e]; exact F
theorem listed_new {base led : List (Addr × Obj)} {x : PySem.Str} {D : Addr} {vs : List Value} {c : Nat} {ys : List (List Nat)} {m₀ : PySem.Str → Option Value} {h' : Heap} {tk' : Nat} (F : Fr h₀ L h' (fun y => if y = x then some (.ref D) else m₀ y)) (N : News h₀ L h' led)
    (h1 : (D, ({ cls := .type "list", data := .seq vs.toArray c } : Obj)) ∈ led) (h2 : ∀ p ∈ base, p ∈ led) (hs : StrsAre vs (ys.map S)) (hlt : ∀ p ∈ base, p.1 < D) : Listed h₀ L base x ys m₀ s .next { s with heap := h', toks := tk' } :=
  ⟨rfl, D, vs, c, h', tk', rfl, F, fun p hp => (List.mem_cons.mp hp).elim (fun e => N p (e ▸ h1)) fun h => N p (h2 p h), hs, hlt⟩
theorem if_listed {M : Model} {t : Sem Flow} {Q : Flow → Shared → Prop} (base : List (Addr × Obj)) (x : PySem.Str) (ys : List (List Nat)) (F : Fr h₀ L s.heap m) (h1 : wpAny M A t (fun f s' => Stopped (Listed h₀ L base x ys m s f s')) E s)
    (h2 : ∀ D vs c h' tk', Fr h₀ L h' (fun y => if y = x then some (.ref D) else m y) → News h₀ L h' ((D, listOf vs.toArray c) :: base) → StrsAre vs (ys.map S) → (∀ p ∈ base, p.1 < D) → Q .next { s with heap := h', toks := tk' }) : wpAny M A t Q E s := by
  refine wpAny_mono h1 (fun f s' hn => ?_) fun _ _ e => e
  obtain ⟨rfl, D, vs, c, h', tk', rfl, F', N', hs, hlt⟩ := hn
  exact h2 D vs c h' tk' F' N' hs hlt
theorem fronts_F {r : List Nat} (h : ¬ r.take 2 = [46, 46]) : fronts0 r = [r] := by unfold fronts0; rw [if_neg h]
theorem fronts_T {r : List Nat} (h : r.take 2 = [46, 46]) : fronts0 r = [r, 10 :: r.drop 1, 13 :: r.drop 1] := by unfold fronts0; rw [if_pos h]
def Undotted (h₀ : Heap) (L : Addr) (base : List (Addr × Obj)) (x : PySem.Str) (o : Option (List Nat)) (m₀ : PySem.Str → Option Value) (s : Shared) (f : Flow) (s' : Shared) : Prop :=
  match o with
  | some v => Named h₀ L base x v m₀ s f s'
  | none => ∃ D h' tk', f = .ret (.ref D) ∧ s' = { s with heap := h', toks := tk' } ∧ Fr h₀ L h' m₀ ∧ News h₀ L h' ((D, listOf #[] 0) :: base) ∧ ∀ p ∈ base, p.1 < D
theorem undotted_some {base : List (Addr × Obj)} {x : PySem.Str} {o : Option (List Nat)} {v : List Nat} {m₀ : PySem.Str → Option Value} {f : Flow} {s' : Shared} (ho : o = some v) (h : Named h₀ L base x v m₀ s f s') : Undotted h₀ L base x o m₀ s f s' := by
  subst ho; exact h
theorem undotted_none {base led : List (Addr × Obj)} {x : PySem.Str} {o : Option (List Nat)} {m₀ : PySem.Str → Option Value} {D : Addr} {h' : Heap} {tk' : Nat} (ho : o = none) (F : Fr h₀ L h' m₀) (N : News h₀ L h' ((D, listOf #[] 0) :: led)) (h2 : ∀ p ∈ base, p ∈ led) (hlt : ∀ p ∈ base, p.1 < D) :
    Undotted h₀ L base x o m₀ s (.ret (.ref D)) { s with heap := h', toks := tk' } := by
  subst ho
  exact ⟨D, h', tk', rfl, rfl, F, fun p hp => N p ((List.mem_cons.mp hp).elim (fun e => e ▸ List.mem_cons_self ..) fun h => List.mem_cons_of_mem _ (h2 p h)), hlt⟩
theorem if_undot {M : Model} {t : Sem Flow} {Q : Flow → Shared → Prop} (base : List (Addr × Obj)) (x : PySem.Str) (o : Option (List Nat)) (F : Fr h₀ L s.heap m) (h1 : wpAny M A t (fun f s' => Stopped (Undotted h₀ L base x o m s f s')) E s)
    (h2 : ∀ v, o = some v → ∀ t h' tk', Fr h₀ L h' (fun y => if y = x then some (.str (S v) t) else m y) → News h₀ L h' base → Q .next { s with heap := h', toks := tk' })
    (h3 : o = none → ∀ D h' tk', Fr h₀ L h' m → News h₀ L h' ((D, listOf #[] 0) :: base) → (∀ p ∈ base, p.1 < D) → Q (.ret (.ref D)) { s with heap := h', toks := tk' }) : wpAny M A t Q E s := by
  refine wpAny_mono h1 (fun f s' hn => ?_) fun _ _ e => e
  cases o with
  | some v =>
    obtain ⟨rfl, t, h', tk', rfl, F', N'⟩ := hn
    exact h2 v rfl t h' tk' F' N'
  | none =>
    obtain ⟨D, h', tk', rfl, rfl, F', N', hlt⟩ := hn
    exact h3 rfl D h' tk' F' N' hlt
theorem sp_row_len : ∀ l : List Nat, ∀ y ∈ sp l, y.length ≤ l.length := by
  refine q_ind ?_ ?_ ?_ ?_ ?_
  · rw [sp_nil]; intro y hy; simp at hy; subst hy; simp
  · intro r h _ y hy; rw [sp_end] at hy
    rcases List.mem_cons.mp hy with rfl | hy
    · simp
    · have := h y hy; simp only [List.length_cons]; omega
  · intro r h y hy
    obtain ⟨b, u, f1, f2⟩ := sp_cons 10 r (by simp)
    rw [f2] at hy; rw [f1] at h
    rcases List.mem_cons.mp hy with rfl | hy
    · have := h b (List.mem_cons_self ..); simp only [List.length_cons]; omega
    · have := h y (List.mem_cons_of_mem _ hy); simp only [List.length_cons]; omega
  · intro r h0 h y hy
    obtain ⟨b, u, f1, f2⟩ := sp_cons 13 r (by simp [h0])
    rw [f2] at hy; rw [f1] at h
    rcases List.mem_cons.mp hy with rfl | hy
    · have := h b (List.mem_cons_self ..); simp only [List.length_cons]; omega
    · have := h y (List.mem_cons_of_mem _ hy); simp only [List.length_cons]; omega
  · intro c r h1 h2 h y hy
    obtain ⟨b, u, f1, f2⟩ := sp_cons c r (by simp [h1])
    rw [f2] at hy; rw [f1] at h
    rcases List.mem_cons.mp hy with rfl | hy
    · have := h b (List.mem_cons_self ..); simp only [List.length_cons]; omega
    · have := h y (List.mem_cons_of_mem _ hy); simp only [List.length_cons]; omega
theorem len_S {D : Addr} {vs : List Value} {c : Nat} {ys : List (List Nat)} (N : News h₀ L s.heap news) (hm : (D, ({ cls := .type "list", data := .seq vs.toArray c } : Obj)) ∈ news) (hi : StrsAre vs (ys.map S)) (hl : ys.length ≤ 1000000)
    (h : ∀ t' k, Q (.int ((ys.length : Nat) : Int) t') { s with toks := k }) : wpAny (model prog w) A (call (.builtin "len") [.ref D]) Q E s := by
  have e : vs.toArray.size = ys.length := by rw [List.size_toArray, strs_len hi]
  refine PySem.Calls.call_len_list (items := vs.toArray) ⟨_, (N _ hm).1, rfl, c, rfl⟩ (by rw [e]; omega) ?_
  rw [e]; exact h _ _
theorem wl_listD {body : List Stmt} {env : Env} {x : PySem.Str} {Q : Flow → Shared → Prop} {σ : Type} {Dl l : Addr} {vs : List Value} {nn : Nat} {m₀ : PySem.Str → Option Value} (LedD : Addr → σ → List (Addr × Obj)) (ps : σ → List (PySem.Str × Value)) (stored : List PySem.Str) (R : Nat → σ → Prop) (c₀ : σ)
    (hh : A.handled = none) (hl : ∀ i c, R i c → (l, listOf vs.toArray nn) ∈ LedD Dl c)
    (F : Fr h₀ env.locals s.heap m₀) (N : News h₀ env.locals s.heap (LedD Dl c₀)) (hk : ∀ p ∈ ps c₀, m₀ p.1 = some p.2) (hp : R 0 c₀)
    (turn : ∀ (c : σ) i v (u : PySem.Str → Option Value) h tk I oI, vs[i]? = some v → R i c → (∀ p ∈ LedD Dl c, p.1 ≠ I) →
      Fr h₀ env.locals h (fun y => if y = x then some v else kstB (fun z => if stored.contains z then u z else m₀ z) (ps c) y) → News h₀ env.locals h ((I, oI) :: LedD Dl c) →
      wpAny (model prog w) A (execs body env) (TurnEnd h₀ env.locals I oI (LedD Dl) ps x stored m₀ (R (i + 1)) Q { s with heap := h, toks := tk }) E { s with heap := h, toks := tk })
    (done : ∀ (c : σ) (u : PySem.Str → Option Value) h tk, R vs.length c → Fr h₀ env.locals h (fun y => if y = x then u y else kstB (fun z => if stored.contains z then u z else m₀ z) (ps c) y) → News h₀ env.locals h (LedD Dl c) →
      Q .next { s with heap := h, toks := tk }) :
    wpAny (model prog w) A (pyIter (.ref l)) (fun it s₂ => LoopAtV prog w A h₀ env x body Q E it s₂) E s := wl_list (LedD Dl) ps stored R c₀ hh hl F N hk hp turn done
theorem app_S {D : Addr} {ws : List Value} {n : Nat} {x : Value} {news' : List (Addr × Obj)} (F : Fr h₀ L s.heap m) (N : News h₀ L s.heap news) (U : Upd D (listOf ws.toArray n) (listOf (ws ++ [x]).toArray (n + 1)) news news')
    (hsz : ws.length ≤ 1000000) (h : ∀ h', Fr h₀ L h' m → News h₀ L h' news' → Q .none { s with heap := h' }) : wpAny (model prog w) A (call (.builtin "list.append") [.ref D, x]) Q E s :=
  append_K (its := ws.toArray) F N (by rw [List.push_toArray]; exact U) h (by rw [List.size_toArray, PySem.sizeLine_eq]; omega)
end

/-! ## one row taken back -/
theorem undot_1 {b : Bool} {r : List Nat} (h : r.take 2 = [46, 46]) : undot b r = some (r.drop 1) := by unfold undot; rw [if_pos h]
theorem undot_2 {b : Bool} {r : List Nat} (h : ¬ r.take 2 = [46, 46]) (h1 : r.take 1 = [46]) (h2 : b = false ∨ ¬ r = [46]) : undot b r = none := by
  unfold undot; rw [if_neg h, if_pos]
  refine ⟨h1, fun ⟨hb, hr⟩ => h2.elim (fun e => by rw [e] at hb; cases hb) fun e => e hr⟩
theorem undot_3 {b : Bool} {r : List Nat} (h : ¬ r.take 2 = [46, 46]) (h1 : ¬ r.take 1 = [46]) : undot b r = some r := by
  unfold undot; rw [if_neg h, if_neg fun e => h1 e.1]
theorem undot_4 {b : Bool} {r : List Nat} (h : ¬ r.take 2 = [46, 46]) (hb : b = true) (hr : r = [46]) : undot b r = some r := by
  unfold undot; rw [if_neg h, if_neg fun e => e.2 ⟨hb, hr⟩]
def one (v : List Nat) (b : Bool) (f : List Nat) : List (List Nat) :=
  (f ++ 13 :: v) :: ((if f.getLast? = some 13 then [] else [f ++ 10 :: v]) ++ (if f ≠ [] ∧ ¬ (b = true ∧ v = []) then [f ++ 13 :: 10 :: v] else []))
theorem one_eq {v f : List Nat} {b : Bool} {x y : List (List Nat)} (hx : (if f.getLast? = some 13 then [] else [f ++ 10 :: v]) = x) (hy : (if f ≠ [] ∧ ¬ (b = true ∧ v = []) then [f ++ 13 :: 10 :: v] else []) = y) : one v b f = (f ++ 13 :: v) :: (x ++ y) := by
  unfold one; rw [hx, hy]
theorem one_L {v f : List Nat} (h : f.drop (f.length - 1) = [13]) : (if f.getLast? = some 13 then [] else [f ++ 10 :: v]) = [] := if_pos ((last1 f 13).mp h)
theorem one_M {v f : List Nat} (h : ¬ f.drop (f.length - 1) = [13]) : (if f.getLast? = some 13 then [] else [f ++ 10 :: v]) = [f ++ 10 :: v] := if_neg fun e => h ((last1 f 13).mpr e)
theorem one_1 {v f : List Nat} {b : Bool} (h : f = []) : (if f ≠ [] ∧ ¬ (b = true ∧ v = []) then [f ++ 13 :: 10 :: v] else []) = [] := if_neg fun e => e.1 h
theorem one_2 {v f : List Nat} {b : Bool} (h : ¬ f = []) (hb : b = false) : (if f ≠ [] ∧ ¬ (b = true ∧ v = []) then [f ++ 13 :: 10 :: v] else []) = [f ++ 13 :: 10 :: v] := if_pos ⟨h, fun e => by rw [hb] at e; cases e.1⟩
theorem one_3 {v f : List Nat} {b : Bool} (hb : b = true) (hv : v = []) : (if f ≠ [] ∧ ¬ (b = true ∧ v = []) then [f ++ 13 :: 10 :: v] else []) = [] := if_neg fun e => e.2 ⟨hb, hv⟩
theorem one_4 {v f : List Nat} {b : Bool} (h : ¬ f = []) (hv : ¬ v = []) : (if f ≠ [] ∧ ¬ (b = true ∧ v = []) then [f ++ 13 :: 10 :: v] else []) = [f ++ 13 :: 10 :: v] := if_pos ⟨h, fun e => hv e.2⟩
theorem step_one (fr : List (List Nat)) (v : List Nat) (b : Bool) : step fr v b = fr.flatMap (one v b) := rfl
theorem step_take {fr : List (List Nat)} {v f : List Nat} {b : Bool} {j : Nat} (hy : fr[j]? = some f) : step (fr.take (j + 1)) v b = step (fr.take j) v b ++ one v b f := by
  rw [step_one, step_one, List.take_add_one, hy, List.flatMap_append]; simp
theorem ends {fr : List (List Nat)} {v f : List Nat} {b : Bool} {j : Nat} {ws ws' : List Value} {zs : List (List Nat)} (hI : StrsAre ws ((step (fr.take j) v b).map S)) (hy : fr[j]? = some f) (hz : one v b f = zs) (hs : StrsAre ws' (zs.map S)) :
    StrsAre (ws ++ ws') ((step (fr.take (j + 1)) v b).map S) := by
  rw [step_take hy, hz]; exact strs_append hI hs
theorem ends1 {fr : List (List Nat)} {v f z1 : List Nat} {b : Bool} {j : Nat} {ws : List Value} {t1 : Tok} (hI : StrsAre ws ((step (fr.take j) v b).map S)) (hy : fr[j]? = some f) (hz : one v b f = [z1]) :
    StrsAre (ws ++ [.str (S z1) t1]) ((step (fr.take (j + 1)) v b).map S) := ends hI hy hz (strs_one _ _)
theorem ends2 {fr : List (List Nat)} {v f z1 z2 : List Nat} {b : Bool} {j : Nat} {ws : List Value} {t1 t2 : Tok} (hI : StrsAre ws ((step (fr.take j) v b).map S)) (hy : fr[j]? = some f) (hz : one v b f = [z1, z2]) :
    StrsAre (ws ++ [.str (S z1) t1] ++ [.str (S z2) t2]) ((step (fr.take (j + 1)) v b).map S) := by
  rw [List.append_assoc]; exact ends hI hy hz (.cons _ _ (.cons _ _ .nil))
theorem ends3 {fr : List (List Nat)} {v f z1 z2 z3 : List Nat} {b : Bool} {j : Nat} {ws : List Value} {t1 t2 t3 : Tok} (hI : StrsAre ws ((step (fr.take j) v b).map S)) (hy : fr[j]? = some f) (hz : one v b f = [z1, z2, z3]) :
    StrsAre (ws ++ [.str (S z1) t1] ++ [.str (S z2) t2] ++ [.str (S z3) t3]) ((step (fr.take (j + 1)) v b).map S) := by
  rw [List.append_assoc, List.append_assoc]; exact ends hI hy hz (.cons _ _ (.cons _ _ (.cons _ _ .nil)))
theorem one_len {v f : List Nat} {b : Bool} : ∀ z ∈ one v b f, z.length ≤ f.length + v.length + 2 := by
  intro z hz
  unfold one at hz
  rcases List.mem_cons.mp hz with rfl | hz
  · simp only [List.length_append, List.length_cons]; omega
  · rcases List.mem_append.mp hz with hz | hz
    · split at hz
      · exact absurd hz List.not_mem_nil
      · rw [List.mem_singleton.mp hz]; simp only [List.length_append, List.length_cons]; omega
    · split at hz
      · rw [List.mem_singleton.mp hz]; simp only [List.length_append, List.length_cons]; omega
      · exact absurd hz List.not_mem_nil
theorem step_flen {fr : List (List Nat)} {v : List Nat} {b : Bool} {B : Nat} (h : ∀ f ∈ fr, f.length ≤ B) : ∀ z ∈ step fr v b, z.length ≤ B + v.length + 2 := by
  intro z hz
  rw [step_one] at hz
  obtain ⟨f, hf, hz⟩ := List.mem_flatMap.mp hz
  have h1 := h f hf
  have h2 := one_len z hz
  omega
theorem run_drop {fr : List (List Nat)} {rest : List (List Nat)} {row : List Nat} {i : Nat} (h : rest[i]? = some row) : run fr (rest.drop i) = match undot (rest.drop (i + 1)).isEmpty row with
    | none => []
    | some v => run (step fr v (rest.drop (i + 1)).isEmpty) (rest.drop (i + 1)) := by
  obtain ⟨hlt, e⟩ := List.getElem?_eq_some_iff.mp h
  rw [List.drop_eq_getElem_cons hlt, e, run]
  all_goals (cases undot (rest.drop (i + 1)).isEmpty row <;> rfl)
theorem undot_vlen {b : Bool} {r v : List Nat} (h : undot b r = some v) : v.length ≤ r.length := (undot_len h).1
section
variable {M : Model} {A : Around} {E : Value → Shared → Prop} {s : Shared} {h₀ : Heap} {L : Addr} {m : PySem.Str → Option Value}
/-- in a statement: go on, the list behind the first of the ledger longer by texts -/
def Grown (h₀ : Heap) (L : Addr) (i : Addr × Obj) (D : Addr) (ws : List Value) (zs : List (List Nat)) (rest : List (Addr × Obj)) (m₀ : PySem.Str → Option Value) (s : Shared) (f : Flow) (s' : Shared) : Prop :=
  f = .next ∧ ∃ ws' c' h' tk', s' = { s with heap := h', toks := tk' } ∧ Fr h₀ L h' m₀ ∧ News h₀ L h' (i :: (D, listOf (ws ++ ws').toArray c') :: rest) ∧ StrsAre ws' (zs.map S)
theorem grown_0 {i : Addr × Obj} {D : Addr} {ws : List Value} {c : Nat} {zs : List (List Nat)} {rest : List (Addr × Obj)} {h' : Heap} {tk' : Nat} (F : Fr h₀ L h' m) (N : News h₀ L h' (i :: (D, listOf ws.toArray c) :: rest)) (hz : zs = []) : Grown h₀ L i D ws zs rest m s .next { s with heap := h', toks := tk' } := by
  subst hz
  exact ⟨rfl, [], c, h', tk', rfl, F, by rw [List.append_nil]; exact N, .nil⟩
theorem grown_1 {i : Addr × Obj} {D : Addr} {ws : List Value} {c : Nat} {z : List Nat} {t : Tok} {zs : List (List Nat)} {rest : List (Addr × Obj)} {h' : Heap} {tk' : Nat} (F : Fr h₀ L h' m) (N : News h₀ L h' (i :: (D, listOf (ws ++ [Value.str (S z) t]).toArray c) :: rest)) (hz : zs = [z]) : Grown h₀ L i D ws zs rest m s .next { s with heap := h', toks := tk' } := by
  subst hz
  exact ⟨rfl, [_], c, h', tk', rfl, F, N, strs_one _ _⟩
theorem if_grown {t : Sem Flow} {Q : Flow → Shared → Prop} {i : Addr × Obj} {D : Addr} {ws : List Value} {c : Nat} {rest : List (Addr × Obj)} (zs : List (List Nat)) (F : Fr h₀ L s.heap m) (N : News h₀ L s.heap (i :: (D, listOf ws.toArray c) :: rest))
    (h1 : wpAny M A t (fun f s' => Stopped (Grown h₀ L i D ws zs rest m s f s')) E s)
    (h2 : ∀ ws' c' h' tk', Fr h₀ L h' m → News h₀ L h' (i :: (D, listOf (ws ++ ws').toArray c') :: rest) → StrsAre ws' (zs.map S) → Q .next { s with heap := h', toks := tk' }) : wpAny M A t Q E s := by
  refine wpAny_mono h1 (fun f s' hn => ?_) fun _ _ e => e
  obtain ⟨rfl, ws', c', h', tk', rfl, F', N', hs⟩ := hn
  exact h2 ws' c' h' tk' F' N' hs
theorem ends_all {fr : List (List Nat)} {v f z : List Nat} {b : Bool} {j : Nat} {ws wa wb : List Value} {t : Tok} (hI : StrsAre ws ((step (fr.take j) v b).map S)) (hy : fr[j]? = some f) (hz : z = f ++ 13 :: v)
    (ha : StrsAre wa ((if f.getLast? = some 13 then [] else [f ++ 10 :: v]).map S)) (hb : StrsAre wb ((if f ≠ [] ∧ ¬ (b = true ∧ v = []) then [f ++ 13 :: 10 :: v] else []).map S)) :
    StrsAre (ws ++ [.str (S z) t] ++ wa ++ wb) ((step (fr.take (j + 1)) v b).map S) := by
  subst hz
  rw [List.append_assoc, List.append_assoc]
  refine ends hI hy (one_eq rfl rfl) ?_
  show StrsAre (Value.str (S (f ++ 13 :: v)) t :: (wa ++ wb)) (S (f ++ 13 :: v) :: List.map S (_ ++ _))
  exact .cons _ _ (strs_append ha hb)
theorem TurnEnd.grown {I Dl : Addr} {oI X : Obj} {rest : List (Addr × Obj)} {x : PySem.Str} {stored : List PySem.Str} {m₀ m' : PySem.Str → Option Value} {P : List Value × Nat → Prop} {Q : Flow → Shared → Prop} {s₁ : Shared} {h' : Heap} {tk : Nat} {ws' : List Value} {c' : Nat}
    (F : Fr h₀ L h' m') (N : News h₀ L h' ((I, oI) :: (Dl, listOf ws'.toArray c') :: rest)) (hne : ∀ p ∈ (Dl, X) :: rest, p.1 ≠ I)
    (hm : ∀ z, z ≠ x → (∀ p ∈ ([] : List (PySem.Str × Value)), z ≠ p.1) → stored.contains z = false → m' z = m₀ z) (hP : P (ws', c')) :
    TurnEnd h₀ L I oI (fun st : List Value × Nat => (Dl, listOf st.1.toArray st.2) :: rest) (fun _ => []) x stored m₀ P Q s₁ .next { s₁ with heap := h', toks := tk } := by
  refine TurnEnd.next (ws', c') F N (.head _) (fun p h => .tail _ h) ?_ (fun p hp => absurd hp List.not_mem_nil) hm hP
  intro p hp
  rcases List.mem_cons.mp hp with rfl | hp
  · exact hne (Dl, X) (List.mem_cons_self ..)
  · exact hne p (.tail _ hp)
end
end Mine

end
/-! F6 -/
section
open PySem PySem.W PyProof.Rows
set_option maxRecDepth 100000
set_option maxHeartbeats 8000000
namespace Mine

local macro_rules | `(tactic| walk_at "asS") => `(tactic| first | with_reducible exact lit_l | with_reducible exact lit_r | with_reducible exact lit_rl | with_reducible exact lit_d | with_reducible exact lit_d2 | with_reducible exact lit_e | with_reducible exact lit_sl | with_reducible exact lit_z | with_reducible exact lit_st | with_reducible exact rfl)
local macro_rules | `(tactic| walk_at "lens") => `(tactic| first | omega | ((simp only [List.length_append, List.length_cons, List.length_nil, List.length_drop, List.length_take, List.length_map, List.length_replicate]); omega) | ((simp only [List.length_append, List.length_cons, List.length_nil, List.length_drop, List.length_take, List.length_map, List.length_replicate] at *); omega))
local macro_rules | `(tactic| walk_at "pyIter ref") => `(tactic| (k_here; refine Stopped.here ?_))
local macro_rules | `(tactic| walk_at "call builtin:str.split") => `(tactic| (k_here; refine Stopped.here ?_))

local macro_rules | `(tactic| walk_at "compareOp NotEq str str") => `(tactic| (k_here; (with_reducible show wpAny _ _ (compareOp _ (Value.str _ _) (Value.str _ _)) _ _ _); k_dflt (refine' ne_S ?k1 ?k2 ?_; (case k1 => walk_at "asS"); (case k2 => walk_at "asS"))))
local macro_rules | `(tactic| walk_at "compareOp In str str") => `(tactic| (k_here; (with_reducible show wpAny _ _ (compareOp _ (Value.str _ _) (Value.str _ _)) _ _ _); k_dflt (refine' in_S ?k1 ?k2 ?_; (case k1 => walk_at "asS"); (case k2 => walk_at "asS"))))

local macro_rules | `(tactic| walk_at "binaryOp Add str str") => `(tactic| (k_here; (with_reducible show wpAny _ _ (binaryOp Operator.Add (Value.str _ _) (Value.str _ _)) _ _ _); k_dflt (refine' add_S ?k1 ?k2 ?k3 ?_; (case k1 => walk_at "asS"); (case k2 => walk_at "asS"); (case k3 => walk_at "lens"); (intro t' k' ln'))))
local macro_rules | `(tactic| walk_at "eval ListComp") => `(tactic| (k_here; refine Stopped.here ?_))
local macro_rules | `(tactic| walk_at "CompSrcT") => `(tactic| (k_here; refine Stopped.here ?_))
local macro_rules | `(tactic| walk_at "exec If") => `(tactic| (k_here; refine Stopped.here ?_))
local macro_rules | `(tactic| walk_at "subscriptTail Name Slice str ref") => `(tactic| (k_here; (with_reducible show wpAny _ _ (subscriptTail _ (Expr.Slice _ _ _ _) (Value.str _ _) (Value.ref _)) _ _ _); (first
  | ((with_reducible show wpAny _ _ (subscriptTail _ (Expr.Slice (some _) none none _) _ _) _ _ _); k_dflt (refine' sl_last (s := ⟨_, _, _, _, _⟩) ?k1 ?k2 ?k3 ?k4 ?k5 ?_ ?k6 ?k7; (case k1 => k_asm); (case k2 => k_asm); (case k3 => walk_at "asS"); (case k4 => exact rfl); (case k5 => walk_at "lens"); (case k6 => with_unfolding_all rfl); (case k7 => intro _; with_unfolding_all rfl)))
  | ((with_reducible show wpAny _ _ (subscriptTail _ (Expr.Slice none (some _) none _) _ _) _ _ _); k_dflt (refine' sl_but (s := ⟨_, _, _, _, _⟩) ?k1 ?k2 ?k3 ?k4 ?k5 ?_ ?k6 ?k7; (case k1 => k_asm); (case k2 => k_asm); (case k3 => walk_at "asS"); (case k4 => exact rfl); (case k5 => walk_at "lens"); (case k6 => with_unfolding_all rfl); (case k7 => intro _; with_unfolding_all rfl)))
  | ((with_reducible show wpAny _ _ (subscriptTail _ (Expr.Slice none (some _) none _) _ _) _ _ _); k_dflt (refine' sl_to (s := ⟨_, _, _, _, _⟩) ?k1 ?k2 ?k3 ?k4 ?k5 ?_ ?k6 ?k7; (case k1 => k_asm); (case k2 => k_asm); (case k3 => walk_at "asS"); (case k4 => exact rfl); (case k5 => walk_at "lens"); (case k6 => with_unfolding_all rfl); (case k7 => intro _; with_unfolding_all rfl)))
  | ((with_reducible show wpAny _ _ (subscriptTail _ (Expr.Slice (some _) none none _) _ _) _ _ _); k_dflt (refine' sl_from (s := ⟨_, _, _, _, _⟩) ?k1 ?k2 ?k3 ?k4 ?k5 ?_ ?k6 ?k7; (case k1 => k_asm); (case k2 => k_asm); (case k3 => walk_at "asS"); (case k4 => exact rfl); (case k5 => walk_at "lens"); (case k6 => with_unfolding_all rfl); (case k7 => intro _; with_unfolding_all rfl)))); intro _ _ _ _ _))
local macro_rules | `(tactic| walk_at "compareOp Eq str str") => `(tactic| (k_here; (with_reducible show wpAny _ _ (compareOp _ (Value.str _ _) (Value.str _ _)) _ _ _); (refine' eq_S ?k1 ?k2 ?_; (case k1 => walk_at "asS"); (case k2 => walk_at "asS"))))


local macro_rules | `(tactic| walk_at "subscriptTail") => `(tactic| (k_here; (with_reducible show wpAny _ _ (subscriptTail _ _ (Value.ref _) (Value.int _ _)) _ _ _); k_dflt (refine' item_S ?k1 ?k2 ?k3 ?k4 ?k5 ?k6 ?_ ?k7; (case k1 => k_asm); (case k2 => k_mem); (case k3 => assumption); (case k4 => first | exact rfl | assumption); (case k5 => first | decide | omega); (case k6 => first | assumption | exact rfl); (case k7 => with_unfolding_all rfl)); intro _))
local macro_rules | `(tactic| walk_at "call builtin:len") => `(tactic| (k_here; (with_reducible show wpAny _ _ (call (Value.builtin "len") [Value.ref _]) _ _ _); k_dflt (refine' len_S ?k1 ?k2 ?k3 ?k4 ?_; (case k1 => k_asm); (case k2 => k_mem); (case k3 => assumption); (case k4 => omega)); intro _ _))
local macro_rules | `(tactic| walk_at "exec For Name Name cons nil") => `(tactic| (k_here; (rename Fr _ _ _ _ => lF'); (with_unfolding_all refine' For_invVF lF' ?k1 ?k2 ?_; (case k1 => exact rfl); (case k2 => exact rfl); k_whole)))
local macro_rules | `(tactic| walk_at "upd") => `(tactic| first | (refine' Upd.head ?a; (case a => exact fun p hp => Nat.ne_of_lt (lt_of_all _ (by assumption) p hp))) | (refine' Upd.tail ?a ?b; (case a => first | (refine Ne.symm ?_; assumption) | k_ne); (case b => walk_at "upd")))
local macro_rules | `(tactic| walk_at "call builtin:list.append") => `(tactic| (k_here; (with_reducible show wpAny _ _ (call (Value.builtin _) [Value.ref _, _]) _ _ _); k_dflt (refine' app_S ?k1 ?k2 ?k3 ?z ?_; (case k1 => k_asm); (case k2 => k_asm); (case k3 => walk_at "upd"); (case z => walk_at "lens"); k_whole); intro h' F' N'; (try k_sweep)))
local macro_rules | `(tactic| walk_at "hyp") => `(tactic| first | assumption | exact of_decide_eq_true (by assumption) | exact of_decide_eq_false (by assumption))
local macro_rules | `(tactic| walk_at "allLt") => `(tactic| first | assumption | (apply And.right; assumption) | (apply And.right; apply And.right; assumption) | (apply And.right; apply And.right; apply And.right; assumption) | (apply And.right; apply And.right; apply And.right; apply And.right; assumption) | (apply And.right; apply And.right; apply And.right; apply And.right; apply And.right; assumption))
theorem rsize1 (n : Nat) : Builtin.Range.rangeSize 1 ((n + 1 : Nat) : Int) 1 = (n : Int) := by
  have := rangeSize_nat 1 (n + 1)
  have e : Builtin.Range.rangeSize 1 ((n + 1 : Nat) : Int) 1 = (((n : Int) + 1 - 1).toNat : Int) := by simpa using this
  rw [e]; omega
theorem undone_con (w : World) {p : Program} {loose : List PySem.Str} {mean : ExcName → Option Value} {mg mb : PySem.Str → Option Value} (news : List (Addr × Obj)) (l : List Nat) (t : Tok) (hl : l.length ≤ 14) (hA : ∀ c ∈ l, c < 128) :
    Con 102 2 100 w p loose mean mg mb news [.str (S l) t] (RetList news (undone l)) := by
  unfold Con
  k_fill
  refine' con_of [(PySem.Str.ofString "word", .str (S l) t)] ?ho ?hcd ?hb ?hl (by decide) ?h ?c1 ?c2 ?c3 ?c4
  case ho => exact rfl
  case hcd => exact rfl
  case hb => exact fun s => BindsTo.of_eq rfl
  case hl => exact locs rfl
  case c1 => exact rfl
  case c2 => exact rfl
  case c3 => exact rfl
  case c4 => decide
  case h =>
    intro dp un gd cn cs a ccd cl outer base h₀ L m s Q E hd hu hk ret g' L' h' tk FG' F' N' B' X' T'
    show wpAny _ _ _ _ _ _
    k_fold
    k_steps
    unfold Stopped
    refine if_named (PySem.Str.ofString "word") (front1 l) (by k_asm) (by k_asm) ?if1 ?after1
    case if1 =>
      refine wpAny_If ?_
      k_steps
      all_goals
        unfold Stopped
        dsimp only
      · refine' named_new ?z1 ?z2 (front1_T (by assumption))
        case z1 => k_asm
        case z2 => k_asm
      · refine' named_as ?z1 ?z2 ?z3
        case z1 => k_asm
        case z2 => k_asm
        case z3 => rw [← front1_F (by assumption)]; rfl
    have hf1 : (front1 l).length ≤ 15 := by unfold front1; split <;> (try simp only [List.length_cons]) <;> omega
    have hc1 : ∀ c ∈ front1 l, c < 128 := by
      unfold front1; split
      · intro c hc; rcases List.mem_cons.mp hc with rfl | hc
        · decide
        · exact hA c hc
      · exact hA
    intro t1 h1 k1 F1 N1
    clear F' N'
    dsimp only
    k_steps
    unfold Stopped
    generalize hl1 : front1 l = l1 at *
    refine if_named (PySem.Str.ofString "word") (back1 l1) (by k_asm) (by k_asm) ?if2 ?after2
    case if2 =>
      refine wpAny_If ?_
      k_steps
      all_goals
        unfold Stopped
        dsimp only
      · refine' named_new ?z1 ?z2 (back1_T (by assumption))
        case z1 => k_asm
        case z2 => k_asm
      · refine' named_as ?z1 ?z2 ?z3
        case z1 => k_asm
        case z2 => k_asm
        case z3 => rw [← back1_F (by assumption)]; rfl
    have hf2 : (back1 l1).length ≤ 16 := by unfold back1; split <;> (try simp only [List.length_append, List.length_cons, List.length_nil]) <;> omega
    have hc2 : ∀ c ∈ back1 l1, c < 128 := by
      unfold back1; split
      · intro c hc; rcases List.mem_append.mp hc with hc | hc
        · exact hc1 c hc
        · rw [List.mem_singleton.mp hc]; decide
      · exact hc1
    intro t2 h2 k2 F2 N2
    clear F1 N1
    dsimp only
    have eu : undone l = if (sp (back1 l1)).any lone then [] else match sp (back1 l1) with
      | row0 :: rest => run (fronts0 row0) rest
      | [] => [] := by subst hl1; rfl
    rw [eu] at ret
    generalize back1 l1 = l2 at *
    k_steps
    unfold Stopped
    refine' split_S ?k1 ?k2 ?k3 ?k4 ?k5 ?k6 ?k7 ?_
    case k1 => k_asm
    case k2 => k_asm
    case k3 => walk_at "asS"
    case k4 => walk_at "asS"
    case k5 => decide
    case k6 => decide
    case k7 => omega
    intro D1 vs1 h3 k3 Y1 F3 N3 lt1
    clear F2 N2
    rw [spP_sp] at Y1
    have hrl := sp_row_len l2
    k_steps
    have hmem : ∀ y ∈ sp l2, ∀ c ∈ y, c < 128 := fun y hy c hc => hc2 c (sp_mem _ l2 (Nat.le_refl _) y hy c hc)
    have hlen := sp_len _ l2 (Nat.le_refl _)
    generalize hrows : sp l2 = rows at *
    unfold Stopped
    refine wpAny_If ?_
    k_steps
    unfold Stopped
    refine LCt.ListComp_T (F₀ := by k_asm) (by with_unfolding_all rfl) (by decide) (by rfl) (by decide) (by rfl) ?_
    k_steps
    unfold Stopped
    refine LCt.CompSrcT.ledger (by rfl) (by k_asm) (by k_asm) (by k_mem) ?sz ?_
    case sz => rw [List.size_toArray, strs_len (by assumption), PySem.sizeLine_eq]; omega
    intro gg
    refine wct_rest (fun i ys => StrsAre ys (((rows.take i).filter lone).map S)) (.inr ⟨_, by k_mem, rfl, _, rfl⟩) ?i0 ?turn ?fin
    case i0 => exact .nil
    case turn =>
      intro i v I oI C oC D m₂ ys h tk E' hi hv hI hC hx F N off ne
      simp only [List.getElem?_toArray] at hv
      obtain ⟨y, ty, hy, rfl⟩ := strs_at (by assumption) hv
      (try simp only [LCg.Off3, and_true] at off)
      dsimp only
      k_steps
      all_goals
        unfold Stopped
        dsimp only
        refine' CEnd.intro ?z1 ?z2 ?z3 ?z4
        case z1 => k_asm
        case z2 => k_asm
        case z3 => exact fun p h => h
        case z4 =>
          first
          | exact filt_T hI hy (lone_T1 (by assumption))
          | exact filt_T hI hy (lone_T2 (by assumption))
          | exact filt_F hI hy (lone_F (by assumption) (by assumption))
    case fin =>
      intro ys hI
      rw [List.size_toArray, strs_len (by assumption), List.take_length] at hI
      unfold LCg.FinE
      intro D2 h2 tk2 F2 N2 o2
      (try simp only [LCg.Off1, and_true] at o2)
      dsimp only
      k_steps
      refine' ne_texts (ns := rows.filter lone) (ms := []) (ys := []) ?n1 ?n2 ?n3 hI .nil ?n5 ?n6 ?n7 ?_
      case n1 => k_asm
      case n2 => k_mem
      case n3 => k_mem
      case n5 => exact fun y hy => hmem y ((List.mem_filter.mp hy).1)
      case n6 => exact fun y hy => absurd hy List.not_mem_nil
      case n7 => first | ktr_units | ke_room
      k_steps
      rotate_left
      · rw [any_T (of_decide_eq_false (by assumption)), if_pos rfl] at ret
        dsimp only
        k_steps
        refine' leaveK_ ?d1 ?d2 ?_
        case d1 => k_asm
        case d2 => k_asm
        intro kF kN
        refine ret _ [] 0 _ _ kF (fun p hp => kN p ?_) .nil (lt_of_all _ (by walk_at "allLt"))
        simp only [List.mem_cons] at hp ⊢
        rcases hp with hp | hp <;> simp [hp]
      rw [any_F (of_decide_eq_true (by assumption)), if_neg Bool.false_ne_true] at ret
      obtain ⟨row0, rest, hr⟩ : ∃ r0 rs, rows = r0 :: rs := by
        cases hq : rows with
        | nil => exact absurd (hrows.trans hq) (sp_ne l2)
        | cons a b => exact ⟨a, b, rfl⟩
      subst hr
      dsimp only at ret
      have hr0 : row0.length ≤ 16 := by have := hrl row0 (List.mem_cons_self ..); omega
      show wpAny _ _ _ _ _ _
      k_steps
      unfold Stopped
      refine if_listed ((D1, listOf vs1.toArray 0) :: news) (PySem.Str.ofString "fronts") (fronts0 row0) (by k_asm) ?if3 ?after3
      case if3 =>
        refine wpAny_If ?_
        k_steps
        all_goals
          unfold Stopped
          dsimp only
        · rw [fronts_T (by assumption)]
          refine' listed_new (vs := [_, _, _]) ?F ?N ?h1 ?h2 ?hs ?lt
          case F => k_asm
          case N => k_asm
          case h1 => k_mem
          case h2 => exact fun p hp => .tail _ (.tail _ (.tail _ (.tail _ (.tail _ hp))))
          case hs => exact .cons _ _ (.cons _ _ (.cons _ _ .nil))
          case lt =>
            refine lt_of_all _ ?_
            show _ ∧ _
            walk_at "allLt"
        · rw [fronts_F (by assumption)]
          refine' listed_as (vs := [_]) ?F ?N ?hm ?h1 ?h2 ?hs ?lt
          case F => k_asm
          case N => k_asm
          case hm => rfl
          case h1 => k_mem
          case h2 => exact fun p hp => .tail _ (.tail _ (.tail _ hp))
          case hs => exact .cons _ _ .nil
          case lt =>
            refine lt_of_all _ ?_
            show _ ∧ _
            walk_at "allLt"
      case after3 =>
        intro D3 vs3 c3 h4 k4 F4 N4 Y3 lt3
        clear hI o2
        dsimp only
        have hr1 : (row0 :: rest).length = rest.length + 1 := rfl
        k_steps
        unfold Stopped
        refine wl_range (n := rest.length) (σ := Addr × List Value × Nat × List (List Nat)) (fun st => (st.1, listOf st.2.1.toArray st.2.2.1) :: (D1, listOf vs1.toArray 0) :: news) (fun st => [(PySem.Str.ofString "fronts", .ref st.1)])
          [PySem.Str.ofString "row", PySem.Str.ofString "last", PySem.Str.ofString "longer", PySem.Str.ofString "front"]
          (fun i st => StrsAre st.2.1 (st.2.2.2.map S) ∧ run st.2.2.2 (rest.drop i) = run (fronts0 row0) rest ∧ st.2.2.2.length ≤ 3 ^ (i + 1) ∧ (∀ f ∈ st.2.2.2, f.length ≤ 20 * (i + 1)) ∧ ∀ p ∈ (D1, listOf vs1.toArray 0) :: news, p.1 < st.1)
          (D3, vs3, c3, fronts0 row0) rfl (by assumption) (rsmall 1 _ (by decide) (by omega)) (rsize1 _) (by k_asm) (by k_asm) ?hk ?h0 ?turn ?done
        case hk => kst_all
        case h0 =>
          refine ⟨Y3, rfl, by have := fronts0_len row0; simpa using this, ?_, lt3⟩
          intro f hf
          have : f.length = row0.length := front_len hf
          omega
        case turn =>
          rintro ⟨Df, vf, cf, fr⟩ i ti u h tk I oI hi ⟨hS, hrun, hcnt, hfl, hltf⟩ hne F9 N9
          dsimp only at hS hrun hcnt hfl hltf hne N9
          obtain ⟨row, hrow⟩ : ∃ row, rest[i]? = some row := ⟨rest[i], List.getElem?_eq_getElem hi⟩
          have hki : (1 : Int) + (i : Int) = ((i + 1 : Nat) : Int) := by omega
          have hrow' : (row0 :: rest)[i + 1]? = some row := by simpa using hrow
          have hrl' : row.length ≤ 16 := by have := hrl row (List.mem_cons_of_mem _ (List.mem_of_getElem? hrow)); omega
          dsimp only [kstB] at F9
          show wpAny _ _ _ _ _ _
          k_fold
          k_steps
          have hg : (List.map S (row0 :: rest)).getD (((1 : Nat) : Int) + (i : Int)).toNat PySem.Str.empty = S row := by
            have e1 : (((1 : Nat) : Int) + (i : Int)).toNat = i + 1 := by omega
            rw [e1, List.getD_eq_getElem?_getD, List.getElem?_map, hrow']; rfl
          have hb : (((1 : Nat) : Int) + (i : Int) == (((row0 :: rest).length : Nat) : Int) - 1) = (rest.drop (i + 1)).isEmpty := by
            rw [Bool.eq_iff_iff, beq_iff_eq, List.isEmpty_iff, List.drop_eq_nil_iff, hr1]; omega
          with_reducible rename Fr _ _ _ _ => F8
          rw [hg, hb] at F8
          have hrd := run_drop (fr := fr) hrow
          rw [hrun] at hrd
          generalize (rest.drop (i + 1)).isEmpty = b at *
          unfold Stopped
          refine if_undot ((I, oI) :: (Df, listOf vf.toArray cf) :: (D1, listOf vs1.toArray 0) :: news) (PySem.Str.ofString "row") (undot b row) (by k_asm) ?if4 ?go ?back
          case if4 =>
            refine wpAny_If ?_
            k_steps
            unfold Stopped
            dsimp only
            · refine undotted_some (undot_1 (by assumption)) ?_
              refine' named_new ?z1 ?z2 rfl
              case z1 => k_asm
              case z2 => k_asm
            unfold Stopped
            refine wpAny_If ?_
            k_steps
            all_goals
              (try unfold Stopped)
              dsimp only
              first
              | (refine' undotted_none (undot_2 (by assumption) (by assumption) (by first | exact .inl (by assumption) | exact .inr (by assumption))) ?F ?N ?s ?lt
                 case F => k_asm
                 case N => k_asm
                 case s => exact fun p h => h
                 case lt => exact lt_of_all _ (by walk_at "allLt"))
              | (refine undotted_some (by first | exact undot_3 (by assumption) (by assumption) | exact undot_4 (by assumption) (by assumption) (by assumption)) ?_
                 refine' named_as ?z1 ?z2 ?z3
                 case z1 => k_asm
                 case z2 => k_asm
                 case z3 => rfl)
          case back =>
            intro hv D5 h5 k5 F5 N5 lt5
            rw [hv] at hrd
            dsimp only at hrd
            rw [hrd] at ret
            dsimp only
            k_steps
            unfold TurnEnd
            dsimp only
            k_steps
            refine' leaveK_ ?d1 ?d2 ?_
            case d1 => k_asm
            case d2 => k_asm
            intro kF kN
            refine ret _ [] 0 _ _ kF (fun p hp => kN p ?_) .nil (fun p hp => lt5 p (.tail _ (.tail _ (.tail _ hp))))
            rcases List.mem_cons.mp hp with rfl | hp
            · exact .head _
            · exact .tail _ (.tail _ (.tail _ (.tail _ hp)))
          case go =>
            intro v hv t5 h5 k5 F5 N5
            have hvl := undot_vlen hv
            rw [hv] at hrd
            dsimp only at hrd
            dsimp only
            k_steps
            unfold Stopped
            refine' wl_listD (l := Df) (vs := vf) (nn := cf) (σ := List Value × Nat) (fun Dl st => (Dl, listOf st.1.toArray st.2) :: (I, oI) :: (Df, listOf vf.toArray cf) :: (D1, listOf vs1.toArray 0) :: news) (fun _ => []) [] (fun j st => StrsAre st.1 ((step (fr.take j) v b).map S)) ([], 0) rfl ?ihl ?ihF ?ihN ?ihk ?ih0 ?iturn ?idone
            case ihN => k_asm
            case ihl => exact fun _ _ _ => .tail _ (.tail _ (.head _))
            case ihF => k_asm
            case ihk => kst_all
            case ih0 => exact .nil
            case iturn =>
              rintro ⟨ws, cw⟩ j vv u2 h6 k6 I2 oI2 hv2 hR2 hne2 F6 N6
              dsimp only at hR2 hne2 N6
              obtain ⟨f, tf, hf, rfl⟩ := strs_at hS hv2
              have hfl1 := hfl f (List.mem_of_getElem? hf)
              have hwl : ws.length ≤ 100000 := by
                have e1 := strs_len hR2
                have e2 := step_len (fr.take j) v b
                have e3 : (fr.take j).length ≤ fr.length := by rw [List.length_take]; omega
                have e4 : 3 ^ (i + 1) ≤ 3 ^ 8 := Nat.pow_le_pow_right (by decide) (by omega)
                omega
              have hI2 := hne2 _ (List.mem_cons_self ..)
              dsimp only at hI2
              dsimp only [kstB] at F6
              show wpAny _ _ _ _ _ _
              k_fold
              k_steps
              unfold Stopped
              refine if_grown (if f.getLast? = some 13 then [] else [f ++ 10 :: v]) (by k_asm) (by k_asm) ?if5 ?af5
              case if5 =>
                refine wpAny_If ?_
                k_steps
                all_goals
                  unfold Stopped
                  dsimp only
                  first
                  | (refine' grown_1 ?z1 ?z2 ?z3
                     case z1 => k_asm
                     case z2 => k_asm
                     case z3 => rw [one_M (by assumption)]; simp)
                  | (refine' grown_0 ?z1 ?z2 ?z3
                     case z1 => k_asm
                     case z2 => k_asm
                     case z3 => exact one_L (by assumption))
              intro wa ca h7 k7 F7 N7 Ha
              have hwa : wa.length ≤ 1 := by rw [strs_len Ha]; split <;> simp
              dsimp only
              k_steps
              unfold Stopped
              refine if_grown (if f ≠ [] ∧ ¬ (b = true ∧ v = []) then [f ++ 13 :: 10 :: v] else []) (by k_asm) (by k_asm) ?if6 ?af6
              case if6 =>
                refine wpAny_If ?_
                k_steps
                all_goals
                  unfold Stopped
                  dsimp only
                  first
                  | (refine' grown_1 ?z1 ?z2 ?z3
                     case z1 => k_asm
                     case z2 => k_asm
                     case z3 =>
                       first
                       | refine (one_2 (by walk_at "hyp") (by walk_at "hyp")).trans ?_
                       | refine (one_4 (by walk_at "hyp") (by walk_at "hyp")).trans ?_
                       simp)
                  | (refine' grown_0 ?z1 ?z2 ?z3
                     case z1 => k_asm
                     case z2 => k_asm
                     case z3 => first | exact one_3 (by walk_at "hyp") (by walk_at "hyp") | exact one_1 (by walk_at "hyp"))
              intro wb cb h8 k8 F8 N8 Hb
              dsimp only
              k_steps
              refine' TurnEnd.grown ?r1 ?r2 hne2 ?r7 ?r8
              case r1 => k_asm
              case r2 => k_asm
              case r7 => kst_same
              case r8 => exact ends_all hR2 hf (by simp) Ha Hb
            case idone =>
              rintro ⟨ws, cw⟩ u2 h6 k6 hR2 F6 N6
              dsimp only at hR2 N6
              dsimp only [kstB] at F6
              rw [strs_len hS, List.take_length] at hR2
              k_steps
              refine' TurnEnd.next (c := (_, ws, cw, step fr v b)) ?e1 ?e2 ?e3 ?e4 ?e5 ?e6 ?e7 ?e8
              case e1 => k_asm
              case e2 => k_asm
              case e3 => exact .tail _ (.head _)
              case e4 =>
                intro p hp
                rcases List.mem_cons.mp hp with rfl | hp
                · exact .head _
                · exact .tail _ (.tail _ (.tail _ hp))
              case e5 =>
                intro p hp
                rcases List.mem_cons.mp hp with rfl | hp
                · refine Nat.ne_of_gt ?_
                  apply And.left
                  assumption
                · exact hne p (.tail _ hp)
              case e6 => kst_all
              case e7 => kst_same
              case e8 =>
                refine ⟨hR2, hrd.symm, ?_, ?_, ?_⟩
                · have e2 := step_len fr v b
                  have e4 : 3 ^ (i + 1 + 1) = 3 ^ (i + 1) * 3 := Nat.pow_succ ..
                  show (step fr v b).length ≤ _
                  omega
                · intro f hf
                  have := step_flen hfl f hf
                  omega
                · refine lt_of_all _ ?_
                  show _ ∧ _
                  walk_at "allLt"
        case done =>
          rintro ⟨Df, vf, cf, fr⟩ u h tk ⟨hS, hrun, hcnt, hfl, hltf⟩ F9 N9
          dsimp only at hS hrun hcnt hfl hltf N9
          dsimp only [kstB] at F9
          rw [List.drop_length] at hrun
          rw [← hrun] at ret
          k_steps
          refine' leaveK_ ?d1 ?d2 ?_
          case d1 => k_asm
          case d2 => k_asm
          intro kF kN
          refine ret _ vf cf _ _ kF (fun p hp => kN p ?_) hS (fun p hp => hltf p (.tail _ hp))
          rcases List.mem_cons.mp hp with rfl | hp
          · exact .head _
          · exact .tail _ (.tail _ hp)
end Mine

end
/-! Two -/
section
open PySem PySem.W PyProof.Rows
set_option maxRecDepth 100000
set_option maxHeartbeats 1000000
namespace Mine
/-! ## a block of two clauses -/
section
variable {prog : Program} {w : World} {A : Around} {E : Value → Shared → Prop} {R : Result → Shared → Prop} {s : Shared}
theorem turn0_is (elt tx ty iter iter2 : Expr) (scope : Scope) (pos : Pos) (it acc : Value) (env : Env) :
    compTurn (.ListComp elt [⟨tx, iter, [], 0⟩, ⟨ty, iter2, [], 0⟩] scope pos) 0 it acc env = (do
      standAt iter.pos
      match ← pyNext it with
      | none => pure (.done .next)
      | some v =>
        letOwnedTupleGo tx it v
        assign tx env v
        let x ← eval iter2 env
        standAt iter2.pos
        let x ← foldedSetIterable iter2 env x
        let it2 ← holding [x] (pyIter x)
        let _ ← runOwn (.compStart (.ListComp elt [⟨tx, iter, [], 0⟩, ⟨ty, iter2, [], 0⟩] scope pos) 1 it2 acc env) env
        again (.compLoop (.ListComp elt [⟨tx, iter, [], 0⟩, ⟨ty, iter2, [], 0⟩] scope pos) 0 it acc env)) := by rfl
theorem turn1_is (elt tx ty iter iter2 : Expr) (scope : Scope) (pos : Pos) (it acc : Value) (env : Env) :
    compTurn (.ListComp elt [⟨tx, iter, [], 0⟩, ⟨ty, iter2, [], 0⟩] scope pos) 1 it acc env = (do
      standAt iter2.pos
      match ← pyNext it with
      | none => pure (.done .next)
      | some v =>
        letOwnedTupleGo ty it v
        assign ty env v
        (do let _ ← call (.builtin "list.append") [acc, ← eval elt env])
        again (.compLoop (.ListComp elt [⟨tx, iter, [], 0⟩, ⟨ty, iter2, [], 0⟩] scope pos) 1 it acc env)) := by rfl
theorem loop1 {elt tx ty iter iter2 : Expr} {scope : Scope} {pos : Pos} {it acc : Value} {env : Env} (I : Nat → Shared → Prop)
    (turn : ∀ n s, I n s → wpAny (model prog w) A (pyNext it) (fun r s₁ => match r with
      | none => R (.ok .next) s₁
      | some v => wpAny (model prog w) A (assign ty env v) (fun _ s₂ => wpAny (model prog w) A (eval elt env) (fun x s₃ =>
          wpAny (model prog w) A (call (.builtin "list.append") [acc, x]) (fun _ s₄ => ∃ m, m < n ∧ I m s₄) (notedBy (model prog w) A env fun e s' => R (.error e) s') s₃)
          (notedBy (model prog w) A env fun e s' => R (.error e) s') s₂) (notedBy (model prog w) A env fun e s' => R (.error e) s') s₁) (notedBy (model prog w) A env fun e s' => R (.error e) s') s)
    (n : Nat) (h : I n s) (ht : ∀ v, letOwnedTupleGo ty it v = pure ()) :
    codeAny (model prog w) A (.compLoop (.ListComp elt [⟨tx, iter, [], 0⟩, ⟨ty, iter2, [], 0⟩] scope pos) 1 it acc env) R s := by
  refine codeAny_loop rfl I (fun n s hI => ?_) n h
  show wpAny _ A ((compTurn (.ListComp elt [⟨tx, iter, [], 0⟩, ⟨ty, iter2, [], 0⟩] scope pos) 1 it acc env).onRaise (fun x => do noteFrame x env; theTreesLotGoes x)) _ _ s
  refine wpAny_noted ?_
  rw [turn1_is]
  refine wpAny_bind (wpAny_standAt (wpAny_bind (wpAny_mono (turn n s hI) (fun r s₁ h₁ => ?_) fun _ _ e => e)))
  cases r with
  | none => exact wpAny_pure h₁
  | some v =>
    refine wpAny_bind (wpAny_of_eq (ht v) ?_)
    exact wpAny_bind (wpAny_mono h₁ (fun _ s₂ h₂ => wpAny_bind (wpAny_bind (wpAny_mono h₂ (fun x s₃ h₃ => wpAny_bind (wpAny_mono h₃
      (fun _ s₄ h₄ => wpAny_pure (wpAny_pure ⟨rfl, h₄⟩)) fun _ _ e => e)) fun _ _ e => e))) fun _ _ e => e)
theorem loop0 {elt tx ty iter iter2 : Expr} {scope : Scope} {pos : Pos} {it acc : Value} {env : Env} (I : Nat → Shared → Prop)
    (turn : ∀ n s, I n s → wpAny (model prog w) A (pyNext it) (fun r s₁ => match r with
      | none => R (.ok .next) s₁
      | some v => wpAny (model prog w) A (assign tx env v) (fun _ s₂ => wpAny (model prog w) A (eval iter2 env) (fun x s₃ =>
          wpAny (model prog w) A (pyIter x) (fun it2 s₄ => codeAny (model prog w) (A.mark none) (.compStart (.ListComp elt [⟨tx, iter, [], 0⟩, ⟨ty, iter2, [], 0⟩] scope pos) 1 it2 acc env)
            (fun r s' => match r with | .ok _ => ∃ m, m < n ∧ I m s' | .error e => cameBackBy (model prog w) A env (notedBy (model prog w) A env fun e s' => R (.error e) s') e s') s₄)
          (notedBy (model prog w) A env fun e s' => R (.error e) s') s₃)
          (notedBy (model prog w) A env fun e s' => R (.error e) s') s₂) (notedBy (model prog w) A env fun e s' => R (.error e) s') s₁) (notedBy (model prog w) A env fun e s' => R (.error e) s') s)
    (n : Nat) (h : I n s) (ht : ∀ v, letOwnedTupleGo tx it v = pure ()) (hs : ∀ x, foldedSetIterable iter2 env x = pure x) :
    codeAny (model prog w) A (.compLoop (.ListComp elt [⟨tx, iter, [], 0⟩, ⟨ty, iter2, [], 0⟩] scope pos) 0 it acc env) R s := by
  refine codeAny_loop rfl I (fun n s hI => ?_) n h
  show wpAny _ A ((compTurn (.ListComp elt [⟨tx, iter, [], 0⟩, ⟨ty, iter2, [], 0⟩] scope pos) 0 it acc env).onRaise (fun x => do noteFrame x env; theTreesLotGoes x)) _ _ s
  refine wpAny_noted ?_
  rw [turn0_is]
  refine wpAny_bind (wpAny_standAt (wpAny_bind (wpAny_mono (turn n s hI) (fun r s₁ h₁ => ?_) fun _ _ e => e)))
  cases r with
  | none => exact wpAny_pure h₁
  | some v =>
    refine wpAny_bind (wpAny_of_eq (ht v) ?_)
    refine wpAny_bind (wpAny_mono h₁ (fun _ s₂ h₂ => wpAny_bind (wpAny_mono h₂ (fun x s₃ h₃ => wpAny_bind (wpAny_standAt ?_)) fun _ _ e => e)) fun _ _ e => e)
    refine wpAny_bind (wpAny_of_eq (hs x) ?_)
    refine wpAny_bind (wpAny_holding (wpAny_mono h₃ (fun it2 s₄ h₄ => ?_) fun _ _ e => e))
    refine wpAny_bind (wpAny_runOwn (codeAny_mono h₄ fun r s' hr => ?_))
    cases r with
    | ok f => exact wpAny_pure ⟨rfl, hr⟩
    | error e => exact hr
theorem start1 {elt tx ty iter iter2 : Expr} {scope : Scope} {pos : Pos} {it acc : Value} {env : Env}
    (h0 : codeAny (model prog w) A (.compLoop (.ListComp elt [⟨tx, iter, [], 0⟩, ⟨ty, iter2, [], 0⟩] scope pos) 1 it acc env) R s)
    (h : wpAny (model prog w) A (pyIter it) (fun it' s' => codeAny (model prog w) A (.compLoop (.ListComp elt [⟨tx, iter, [], 0⟩, ⟨ty, iter2, [], 0⟩] scope pos) 1 it' acc env) R s')
      (notedBy (model prog w) A env fun x s' => R (.error x) s') s) :
    codeAny (model prog w) A (.compStart (.ListComp elt [⟨tx, iter, [], 0⟩, ⟨ty, iter2, [], 0⟩] scope pos) 1 it acc env) R s := by
  refine codeAny_of_tree ?_
  show wpAny _ _ ((compStart (.ListComp elt [⟨tx, iter, [], 0⟩, ⟨ty, iter2, [], 0⟩] scope pos) 1 it acc env).onRaise (fun x => do noteFrame x env; standAt theWindowsPlace)) _ _ s
  refine wpAny_notedAt ?_
  unfold compStart
  show wpAny _ _ (ask >>= _) _ _ s
  refine wpAny_bind (wpAny_askSetting (wpAny_ite ?_))
  split
  · first
      | exact wpAny_bind (wpAny_pure (wpAny_pure (And.intro rfl h0)))
      | exact wpAny_pure (And.intro rfl h0)
  · refine wpAny_bind (wpAny_rule ?_)
    show wpAny _ _ (standAt iter2.pos >>= _) _ _ s
    exact wpAny_bind (wpAny_standAt (wpAny_bind (wpAny_mono h (fun it' s' h' => wpAny_pure (And.intro rfl h')) fun _ _ x => x)))
end
end Mine

end
/-! Two2 -/
section
open PySem PySem.W PyProof.Rows
set_option maxRecDepth 100000
set_option maxHeartbeats 1000000
namespace Mine
/-- the block's heap: the frame, the ledger, the block's names, what is gathered -/
structure AtC (h₀ : Heap) (L : Addr) (m : PySem.Str → Option Value) (C D : Addr) (accs : List Value) (led : List (Addr × Obj)) (h : Heap) : Prop where
  fr : Fr h₀ L h m
  nw : News h₀ L h led
  ns : ∃ m', h.Ns C m'
  acc : h.get? D = some (LCg.lst accs)
structure OffC (h₀ : Heap) (L C D : Addr) (led : List (Addr × Obj)) : Prop where
  cl : C ≠ L
  dl : D ≠ L
  cd : C ≠ D
  c0 : h₀.get? C = none
  d0 : h₀.get? D = none
  off : ∀ p ∈ led, p.1 ≠ C ∧ p.1 ≠ D

section
variable {prog : Program} {w : World} {A A0 : Around} {E : Value → Shared → Prop} {R : Result → Shared → Prop} {s : Shared} {h₀ : Heap} {L C D : Addr} {m : PySem.Str → Option Value} {accs : List Value} {led : List (Addr × Obj)}
/-- a change at an address that is none of the block's -/
theorem AtC.but {h h' : Heap} {J : Addr} (x : AtC h₀ L m C D accs led h) (hk : ∀ b o, b ∉ [J] → h.get? b = some o → h'.get? b = some o) (hL : L ≠ J) (hJ : h₀.get? J = none) (hC : C ≠ J) (hD : D ≠ J) (off : ∀ p ∈ led, p.1 ≠ J) : AtC h₀ L m C D accs led h' :=
  ⟨LCg.fr_but x.fr hk hL hJ, LCg.news_but x.nw hk off, let ⟨m', n⟩ := x.ns; ⟨m', n.at' fun o e => hk _ o (by simpa using hC) e⟩, hk _ _ (by simpa using hD) x.acc⟩
theorem AtC.store {h h' : Heap} {m₁ : PySem.Str → Option Value} (o : OffC h₀ L C D led) (x : AtC h₀ L m C D accs led h) (hn : h'.Ns C m₁) (hs : Heap.SameBut C h h') : AtC h₀ L m C D accs led h' :=
  ⟨x.fr.change hs o.cl o.c0, fun p hp => ⟨hs.extBut _ _ (o.off p hp).1 (x.nw p hp).1, (x.nw p hp).2⟩, ⟨m₁, hn⟩, hs.extBut _ _ (Ne.symm o.cd) x.acc⟩
theorem AtC.app {h h' : Heap} {v : Value} (o : OffC h₀ L C D led) (x : AtC h₀ L m C D accs led h) (hs : Heap.SameBut D h h') (hD : h'.get? D = some (LCg.lst (accs ++ [v]))) : AtC h₀ L m C D (accs ++ [v]) led h' :=
  ⟨x.fr.change hs o.dl o.d0, fun p hp => ⟨hs.extBut _ _ (o.off p hp).2 (x.nw p hp).1, (x.nw p hp).2⟩, let ⟨m', n⟩ := x.ns; ⟨m', n.sameBut hs o.cd⟩, hD⟩

theorem inner_loop {tx iter iter2 : Expr} {y : PySem.Str} {py py2 : Pos} {scope : Scope} {cl : List (PySem.Str × Addr)} {pos : Pos} {env : Env} {Di : Addr} {vs : List Value} {c : Nat} (hh : A.handled = none) (o : OffC h₀ L C D led) (x : AtC h₀ L m C D accs led s.heap)
    (hm : (Di, ({ cls := .type "list", data := .seq vs.toArray c } : Obj)) ∈ led) (hkind : scope.kind = .function) (hy : scope.names.lookup y = some .local) (hyd : (y == ("__debug__" : PySem.Str)) = false) (hsz : accs.length + vs.length ≤ 1000000)
    (hR : ∀ h' tk, AtC h₀ L m C D (accs ++ vs) led h' → R (.ok .next) { s with heap := h', toks := tk }) :
    wpAny (model prog w) A0 (pyIter (.ref Di)) (fun it2 s₄ => codeAny (model prog w) A (.compStart (.ListComp (.Name y py) [⟨tx, iter, [], 0⟩, ⟨.Name y py2, iter2, [], 0⟩] scope pos) 1 it2 (.ref D) (compEnvC scope cl C env)) R s₄) E s := by
  have hget := (x.nw _ hm).1
  have hl : s.heap.IsList Di vs.toArray := ⟨_, hget, rfl, c, rfl⟩
  have hne : Di ≠ s.heap.objs.size := Nat.ne_of_lt (Heap.lt_size hget)
  refine wpAny_pyIter_list hl ?_
  have W := Walks.list (prog := prog) (w := w) hh s.heap.objs.size Di hne vs.toArray
  rw [List.size_toArray] at W
  have up : ∀ b oo, s.heap.get? b = some oo → (s.heap.push { cls := .type "list_iterator", data := .fields #[.ref Di, .int 0 0] }).get? b = some oo := fun b oo e => Heap.get?_push_of_some _ e
  have x1 : AtC h₀ L m C D accs led (s.heap.push { cls := .type "list_iterator", data := .fields #[.ref Di, .int 0 0] }) :=
    ⟨x.fr.keeps up, x.nw.grown up, let ⟨m', n⟩ := x.ns; ⟨m', n.at' fun oo e => up _ _ e⟩, up _ _ x.acc⟩
  have hLJ : L ≠ s.heap.objs.size := Nat.ne_of_lt x.fr.ns.lt
  have hJ0 : h₀.get? s.heap.objs.size = none := next_is_new x.fr
  have hCJ : C ≠ s.heap.objs.size := by obtain ⟨m', n⟩ := x.ns; exact Nat.ne_of_lt n.lt
  have hDJ : D ≠ s.heap.objs.size := Nat.ne_of_lt (Heap.lt_size x.acc)
  have offJ : ∀ p ∈ led, p.1 ≠ s.heap.objs.size := fun p hp => Nat.ne_of_lt (Heap.lt_size (x.nw p hp).1)
  have hDiC : Di ≠ C := (o.off _ hm).1
  have hDiD : Di ≠ D := (o.off _ hm).2
  have loop : codeAny (model prog w) A (.compLoop (.ListComp (.Name y py) [⟨tx, iter, [], 0⟩, ⟨.Name y py2, iter2, [], 0⟩] scope pos) 1 (.ref s.heap.objs.size) (.ref D) (compEnvC scope cl C env)) R
      { s with heap := s.heap.push { cls := .type "list_iterator", data := .fields #[.ref Di, .int 0 0] } } := by
    refine loop1 (fun k s' => ∃ h' tk i, s' = { s with heap := h', toks := tk } ∧ i ≤ vs.length ∧ k = vs.length + 1 - i ∧ (h'.IsListIter s.heap.objs.size Di i ∧ h'.IsList Di vs.toArray) ∧ AtC h₀ L m C D (accs ++ vs.take i) led h') ?_ (vs.length + 1)
      ⟨_, _, 0, rfl, Nat.zero_le _, rfl, ⟨⟨_, Heap.get?_push_size _ rfl, rfl, rfl⟩, hl.at fun oo e => up _ _ e⟩, by simpa using x1⟩ (by intro _; rfl)
    rintro k s' ⟨h', tk, i, rfl, hi, rfl, st, x'⟩
    by_cases hlt : i < vs.length
    · refine W.item i _ _ _ hlt st fun v h₂ tk₂ hPv st₂ hk₂ => ?_
      have x2 := x'.but hk₂ hLJ hJ0 hCJ hDJ offJ
      obtain ⟨m₂, n₂⟩ := x2.ns
      refine wpAny_assign_Name (wpAny_storeName_local (lookup_relabel_local hy) n₂ (fun h₃ hn₃ hs₃ => ?_) (by simp [compEnvC, relabel, hkind]))
      have x3 := AtC.store o x2 hn₃ hs₃
      refine wpAny_Name (wpAny_loadName_local (by simp [compEnvC, relabel, hkind]) (lookup_relabel_local hy) hn₃ (v := v) (by simp) ?_) hyd
      refine append_at (hsz := by rw [List.size_toArray, List.length_append, List.length_take, PySem.sizeLine_eq]; omega) x3.acc fun h₅ hs₅ hD₅ => ?_
      have x5 := AtC.app (v := v) o x3 hs₅ (hD₅.trans (congrArg some (LCg.lst_snoc _ v)))
      have hv : vs[i]? = some v := by simpa using hPv
      have e1 : accs ++ vs.take (i + 1) = accs ++ vs.take i ++ [v] := by rw [List.take_add_one, hv, List.append_assoc]; rfl
      refine ⟨vs.length + 1 - (i + 1), by omega, h₅, _, i + 1, rfl, hlt, rfl, W.frame _ _ _ (W.frame _ _ _ st₂ fun b hb oo e => hs₃.extBut b oo ?_ e) fun b hb oo e => hs₅.extBut b oo ?_ e, by rw [e1]; exact x5⟩
      · rintro rfl
        simp only [List.mem_cons, List.not_mem_nil, or_false] at hb
        exact hb.elim hCJ fun e => hDiC e.symm
      · rintro rfl
        simp only [List.mem_cons, List.not_mem_nil, or_false] at hb
        exact hb.elim hDJ fun e => hDiD e.symm
    · obtain rfl : i = vs.length := Nat.le_antisymm hi (Nat.not_lt.mp hlt)
      rw [List.take_length] at x'
      exact W.done _ _ _ st fun h₂ tk₂ hk₂ => hR h₂ tk₂ (x'.but hk₂ hLJ hJ0 hCJ hDJ offJ)
  exact start1 loop (W.self 0 _ _ _ ⟨⟨_, Heap.get?_push_size _ rfl, rfl, rfl⟩, hl.at fun oo e => up _ _ e⟩ loop)
end
end Mine

end
/-! Two3 -/
section
open PySem PySem.W PyProof.Rows
set_option maxRecDepth 100000
set_option maxHeartbeats 1000000
namespace Mine
/-- what the second clause's list is: new, behind all that the ledger holds -/
def Got (h₀ : Heap) (L : Addr) (m : PySem.Str → Option Value) (led : List (Addr × Obj)) (s : Shared) (G : List Value → Prop) (v : Value) (s₂ : Shared) : Prop :=
  ∃ Di vs c h' tk', v = .ref Di ∧ s₂ = { s with heap := h', toks := tk' } ∧ Fr h₀ L h' m ∧ News h₀ L h' ((Di, listOf vs.toArray c) :: led) ∧ (∀ p ∈ led, p.1 < Di) ∧ G vs
section
variable {prog : Program} {w : World} {A : Around} {E : Value → Shared → Prop} {s : Shared} {h₀ : Heap} {L : Addr} {m : PySem.Str → Option Value} {news : List (Addr × Obj)} {env : Env}

theorem block_two {iter iter2 : Expr} {x y : PySem.Str} {px py py2 : Pos} {scope : Scope} {cl : List (PySem.Str × Addr)} {pos : Pos} {Wl I : Addr} {vs : List Value} {c : Nat} {s₂ : Shared} {RR : Value → Addr → Result → Shared → Prop}
    (Inv : Nat → List Value → Prop) (G : Nat → List Value → Prop) (hh : A.handled = none) (hI : I = s₂.heap.objs.size - 1) (hIl : I < s₂.heap.objs.size) (hIt : s₂.heap.IsListIter I Wl 0) (hm : (Wl, ({ cls := .type "list", data := .seq vs.toArray c } : Obj)) ∈ news) (off : ∀ p ∈ news, p.1 ≠ I) (hIL : L ≠ I) (hI₀ : h₀.get? I = none)
    (hcell : ∀ z ∈ scope.names, z.2 ≠ .cell) (hkind : scope.kind = .function) (hx : scope.names.lookup x = some .local) (hy : scope.names.lookup y = some .local) (hyd : (y == ("__debug__" : PySem.Str)) = false)
    (F : Fr h₀ L s₂.heap m) (N : News h₀ L s₂.heap news) (h0 : Inv 0 [])
    (turn : ∀ i v I oI C oC D m₂ accs h tk (E' : Value → Shared → Prop), vs[i]? = some v → Inv i accs → LCg.NsObj oC m₂ → m₂ x = some v → Fr h₀ L h m → News h₀ L h ((I, oI) :: (C, oC) :: (D, LCg.lst accs) :: news) →
      wpAny (model prog w) A (eval iter2 (compEnvC scope cl C env)) (Got h₀ L m ((I, oI) :: (C, oC) :: (D, LCg.lst accs) :: news) { s₂ with heap := h, toks := tk } (G i)) E' { s₂ with heap := h, toks := tk })
    (grow : ∀ i accs ws, i < vs.length → Inv i accs → G i ws → Inv (i + 1) (accs ++ ws) ∧ accs.length + ws.length ≤ 1000000)
    (hRR : ∀ D C accs h tk m', AtC h₀ L m C D accs news h → OffC h₀ L C D news → h.Ns C m' → Inv vs.length accs → RR (.ref D) C (.ok .next) { s₂ with heap := h, toks := tk })
    (hs : ∀ z cenv, foldedSetIterable iter2 cenv z = pure z) :
    wpAny (model prog w) A (newList []) (fun acc s₃ => wpAny (model prog w) A (newFunctionEnv scope env.globals cl [] env.qual none .none (some env)) (fun cenv s₄ =>
      codeAny (model prog w) A (.compStart (.ListComp (.Name y py) [⟨.Name x px, iter, [], 0⟩, ⟨.Name y py2, iter2, [], 0⟩] scope pos) 0 (.ref I) acc { cenv with scope := relabel scope env }) (RR acc cenv.locals) s₄) E s₃) E s₂ := by
  refine wpAny_newObj_type (wpAny_newFunctionEnv hcell (by intro z hz; simp at hz) (fun h₁ hns₁ hsb₁ => ?_) hkind)
  dsimp only at hns₁ hsb₁ ⊢
  generalize hH2 : s₂.heap.push { cls := .type "list", dict := none, data := .seq ([] : List Value).toArray } = H2 at hns₁ hsb₁ ⊢
  have hC : H2.objs.size = s₂.heap.objs.size + 1 := by rw [← hH2, Heap.size_push]
  have hWget := (N _ hm).1
  have hl : s₂.heap.IsList Wl vs.toArray := ⟨_, hWget, rfl, c, rfl⟩
  have hWI : Wl ≠ I := off _ hm
  have W := Walks.list (prog := prog) (w := w) (A := A) hh I Wl hWI vs.toArray
  rw [List.size_toArray] at W
  have below : ∀ b, b < s₂.heap.objs.size → b ≠ H2.objs.size ∧ b ≠ s₂.heap.objs.size := fun b hb => ⟨by rw [hC]; exact Nat.ne_of_lt (Nat.lt_succ_of_lt hb), Nat.ne_of_lt hb⟩
  have hDC : s₂.heap.objs.size ≠ H2.objs.size := by rw [hC]; exact Nat.ne_of_lt (Nat.lt_succ_self _)
  have old : ∀ b o, s₂.heap.get? b = some o → h₁.get? b = some o := fun b o e => hsb₁.extBut b o (below b (Heap.lt_size e)).1 (Heap.get?_push_of_some _ (hH2 ▸ Heap.get?_push_of_some _ e))
  have hacc : h₁.get? s₂.heap.objs.size = some (LCg.lst []) := hsb₁.extBut _ _ hDC (Heap.get?_push_of_some _ (hH2 ▸ Heap.get?_push_size _ rfl))
  have fresh₀ : ∀ a, s₂.heap.objs.size ≤ a → h₀.get? a = none := fun a ha => by
    cases e : h₀.get? a with
    | none => rfl
    | some o' => exact absurd (Heap.lt_size (F.keep a o' e)) (Nat.not_lt.mpr ha)
  have o : OffC h₀ L H2.objs.size s₂.heap.objs.size news :=
    ⟨Ne.symm (below L F.ns.lt).1, Ne.symm (below L F.ns.lt).2, Ne.symm hDC, fresh₀ _ (by rw [hC]; exact Nat.le_succ _), fresh₀ _ (Nat.le_refl _), fun p hp => below _ (Heap.lt_size (N p hp).1)⟩
  have hCI : H2.objs.size ≠ I := Ne.symm (below I hIl).1
  have hDI : s₂.heap.objs.size ≠ I := Ne.symm (below I hIl).2
  have hWC : Wl ≠ H2.objs.size := (o.off _ hm).1
  have hWD : Wl ≠ s₂.heap.objs.size := (o.off _ hm).2
  have st0 : h₁.IsListIter I Wl 0 ∧ h₁.IsList Wl vs.toArray := ⟨hIt.at fun oo e => old _ _ e, hl.at fun oo e => old _ _ e⟩
  have x0 : AtC h₀ L m H2.objs.size s₂.heap.objs.size [] news h₁ := ⟨F.keeps old, N.grown old, ⟨_, hns₁⟩, hacc⟩
  have loop : codeAny (model prog w) A (.compLoop (.ListComp (.Name y py) [⟨.Name x px, iter, [], 0⟩, ⟨.Name y py2, iter2, [], 0⟩] scope pos) 0 (.ref I) (.ref s₂.heap.objs.size) (compEnvC scope cl H2.objs.size env))
        (RR (.ref s₂.heap.objs.size) H2.objs.size) { s₂ with heap := h₁, toks := s₂.toks + ([] : List (PySem.Str × Value)).length } := by
    refine loop0 (fun k s' => ∃ h' tk i accs, s' = { s₂ with heap := h', toks := tk } ∧ i ≤ vs.length ∧ k = vs.length + 1 - i ∧ (h'.IsListIter I Wl i ∧ h'.IsList Wl vs.toArray) ∧ AtC h₀ L m H2.objs.size s₂.heap.objs.size accs news h' ∧ Inv i accs) ?_ (vs.length + 1)
      ⟨h₁, _, 0, [], rfl, Nat.zero_le _, rfl, st0, x0, h0⟩ (by intro _; rfl) (fun z => hs z _)
    rintro k s' ⟨h', tk, i, accs, rfl, hi, rfl, st, x', hInv⟩
    by_cases hlt : i < vs.length
    · refine W.item i _ _ _ hlt st fun v h₂ tk₂ hPv st₂ hk₂ => ?_
      have x2 := x'.but hk₂ hIL hI₀ hCI hDI off
      obtain ⟨m₂, n₂⟩ := x2.ns
      refine wpAny_assign_Name (wpAny_storeName_local (lookup_relabel_local hx) n₂ (fun h₃ hn₃ hs₃ => ?_) (by simp [compEnvC, relabel, hkind]))
      have x3 := AtC.store o x2 hn₃ hs₃
      have st₃ : h₃.IsListIter I Wl (i + 1) ∧ h₃.IsList Wl vs.toArray := W.frame _ _ _ st₂ fun b hb oo e => hs₃.extBut b oo (by
        rintro rfl
        simp only [List.mem_cons, List.not_mem_nil, or_false] at hb
        exact hb.elim hCI fun e => hWC e.symm) e
      obtain ⟨oI, heI, hoI⟩ := st₃.1
      obtain ⟨oC, heC, hoC⟩ := LCg.ns_obj hn₃
      have hv : vs[i]? = some v := by simpa using hPv
      have N₃ : News h₀ L h₃ ((I, oI) :: (H2.objs.size, oC) :: (s₂.heap.objs.size, LCg.lst accs) :: news) := fun p hp => by
        rcases List.mem_cons.mp hp with rfl | hp
        · exact ⟨heI, Ne.symm hIL, hI₀⟩
        rcases List.mem_cons.mp hp with rfl | hp
        · exact ⟨heC, o.cl, o.c0⟩
        rcases List.mem_cons.mp hp with rfl | hp
        · exact ⟨x3.acc, o.dl, o.d0⟩
        · exact x3.nw p hp
      refine wpAny_mono (turn i v I oI H2.objs.size oC s₂.heap.objs.size _ accs h₃ _ _ hv hInv hoC (by simp) x3.fr N₃) (fun xv s₄ h₄ => ?_) fun _ _ e => e
      obtain ⟨Di, ws, cw, h₄, tk₄, rfl, rfl, F₄, N₄, lt₄, hG⟩ := h₄
      obtain ⟨hInv', hsz⟩ := grow i accs ws hlt hInv hG
      have x4 : AtC h₀ L m H2.objs.size s₂.heap.objs.size accs ((I, oI) :: (Di, listOf ws.toArray cw) :: news) h₄ := by
        refine ⟨F₄, fun p hp => N₄ p ?_, ⟨_, hoC.ns (N₄ _ (.tail _ (.tail _ (.head _)))).1⟩, (N₄ _ (.tail _ (.tail _ (.tail _ (.head _))))).1⟩
        rcases List.mem_cons.mp hp with rfl | hp
        · exact .tail _ (.head _)
        rcases List.mem_cons.mp hp with rfl | hp
        · exact .head _
        · exact .tail _ (.tail _ (.tail _ (.tail _ hp)))
      have o4 : OffC h₀ L H2.objs.size s₂.heap.objs.size ((I, oI) :: (Di, listOf ws.toArray cw) :: news) := by
        refine ⟨o.cl, o.dl, o.cd, o.c0, o.d0, fun p hp => ?_⟩
        rcases List.mem_cons.mp hp with rfl | hp
        · exact ⟨Ne.symm hCI, Ne.symm hDI⟩
        rcases List.mem_cons.mp hp with rfl | hp
        · exact ⟨Ne.symm (Nat.ne_of_lt (lt₄ _ (.tail _ (.head _)))), Ne.symm (Nat.ne_of_lt (lt₄ _ (.tail _ (.tail _ (.head _)))))⟩
        · exact o.off p hp
      refine inner_loop (A := A.mark none) (by simp [Around.mark, hh]) o4 x4 (.tail _ (.head _)) hkind hy hyd hsz fun h₅ tk₅ x5 => ?_
      have eI : h₅.get? I = some oI := (x5.nw _ (.head _)).1
      refine ⟨vs.length + 1 - (i + 1), by omega, h₅, tk₅, i + 1, accs ++ ws, rfl, hlt, rfl, ⟨⟨oI, eI, hoI⟩, ?_⟩, ⟨x5.fr, fun p hp => x5.nw p (.tail _ (.tail _ hp)), x5.ns, x5.acc⟩, hInv'⟩
      exact ⟨_, (x5.nw _ (.tail _ (.tail _ hm))).1, rfl, c, rfl⟩
    · obtain rfl : i = vs.length := Nat.le_antisymm hi (Nat.not_lt.mp hlt)
      refine W.done _ _ _ st fun h₂ tk₂ hk₂ => ?_
      have x2 := x'.but hk₂ hIL hI₀ hCI hDI off
      obtain ⟨m₂, n₂⟩ := x2.ns
      exact hRR _ _ _ h₂ tk₂ m₂ x2 o n₂ hInv
  exact codeAny_compStart_list loop (W.self 0 _ _ _ st0 loop)
end
end Mine

end
/-! Two4 -/
section
open PySem PySem.W PyProof.Rows
set_option maxRecDepth 100000
set_option maxHeartbeats 1000000
namespace Mine
section
variable {prog : Program} {w : World} {A : Around} {E : Value → Shared → Prop} {s : Shared} {h₀ : Heap} {L : Addr} {m : PySem.Str → Option Value} {env : Env}
def Src2 (prog : Program) (w : World) (A : Around) (h₀ : Heap) (L : Addr) (m : PySem.Str → Option Value) (env : Env) (iter2 : Expr) (x z : PySem.Str) (scope : Scope) (cl : List (PySem.Str × Addr)) (Q : Flow → Shared → Prop) (xv : Value) (s₁ : Shared) : Prop :=
  ∃ (Wl : Addr) (vs : List Value) (c : Nat) (news : List (Addr × Obj)) (Inv : Nat → List Value → Prop) (G : Nat → List Value → Prop), xv = .ref Wl ∧ A.handled = none ∧ Fr h₀ L s₁.heap m ∧ News h₀ L s₁.heap news ∧ (Wl, ({ cls := .type "list", data := .seq vs.toArray c } : Obj)) ∈ news ∧ Inv 0 [] ∧
    (∀ g i v I oI C oC D m₂ accs h tk (E' : Value → Shared → Prop), vs[i]? = some v → Inv i accs → LCg.NsObj oC m₂ → m₂ x = some v → Fr h₀ L h m → News h₀ L h ((I, oI) :: (C, oC) :: (D, LCg.lst accs) :: news) →
      wpAny (model prog w) A (eval iter2 (compEnvC scope cl C env)) (Got h₀ L m ((I, oI) :: (C, oC) :: (D, LCg.lst accs) :: news) { ({ s₁ with heap := g } : Shared) with heap := h, toks := tk } (G i)) E' { ({ s₁ with heap := g } : Shared) with heap := h, toks := tk }) ∧
    (∀ i accs ws, i < vs.length → Inv i accs → G i ws → Inv (i + 1) (accs ++ ws) ∧ accs.length + ws.length ≤ 1000000) ∧
    (∀ accs D h tk, Inv vs.length accs → Fr h₀ L h (fun q => if q = z then some (.ref D) else m q) → News h₀ L h ((D, LCg.lst accs) :: news) → (∀ p ∈ news, p.1 ≠ D) → Q .next { s₁ with heap := h, toks := tk })

theorem Assign_two {iter iter2 : Expr} {x y z : PySem.Str} {px py py2 pz : Pos} {scope : Scope} {cl : List (PySem.Str × Addr)} {pos spos : Pos} {Q : Flow → Shared → Prop} (F₀ : Fr h₀ L s.heap m) (hLe : env.locals = L)
    (hsw : swapsWith (.ListComp (.Name y py) [⟨.Name x px, iter, [], 0⟩, ⟨.Name y py2, iter2, [], 0⟩] scope pos) (some (.Name z pz)) spos.line env = pure true)
    (hclos : closureFor scope env = pure cl) (hcell : ∀ z ∈ scope.names, z.2 ≠ .cell) (hkind : scope.kind = .function)
    (hnames : ∀ z ∈ scope.names, z.2 = .local → scope.names.lookup z.1 = some .local) (hx : scope.names.lookup x = some .local) (hy : scope.names.lookup y = some .local) (hyd : (y == ("__debug__" : PySem.Str)) = false)
    (hz : env.kindOf z = some .local) (hp : (env.scope.kind == .class || (env.scope.kind == .module && env.locals != env.globals)) = false)
    (h : wpAny (model prog w) A (eval iter env) (Src2 prog w A h₀ L m env iter2 x z scope cl Q) E s)
    (hs : ∀ v, foldedSetIterable iter env v = pure v) (hs2 : ∀ v cenv, foldedSetIterable iter2 cenv v = pure v) :
    wpAny (model prog w) A (exec (.Assign [.Name z pz] (.ListComp (.Name y py) [⟨.Name x px, iter, [], 0⟩, ⟨.Name y py2, iter2, [], 0⟩] scope pos) spos) env) Q E s := by
  subst hLe
  rw [exec_Assign_Name_used _ _ _ _ hsw]
  refine wpAny_bind (wpAny_standAt (wpAny_bind ?_))
  show wpAny _ A (do let _ ← comprehension (.ListComp (.Name y py) [⟨.Name x px, iter, [], 0⟩, ⟨.Name y py2, iter2, [], 0⟩] scope pos) scope env _ (newList []) false (eval iter env) (some (assign (.Name z pz) env))) _ _ s
  refine wpAny_bind (wpAny_mono (wpAny_comprehension_free (use := some (assign (.Name z pz) env)) (Q := fun _ s' => Q .next s') rfl hs hclos hkind hnames
    (wpAny_mono h (fun xv s₁ h₁ => ?_) fun _ _ e => e)) (fun _ s' hq => wpAny_pure (wpAny_pure hq)) fun _ _ e => e)
  obtain ⟨Wl, vs, c, news, Inv, G, rfl, hh, F, N, hm, h0, turn, grow, fin⟩ := h₁
  have hget := (N _ hm).1
  have hl : s₁.heap.IsList Wl vs.toArray := ⟨_, hget, rfl, c, rfl⟩
  refine wpAny_pyIter_list hl ?_
  have up : ∀ b o, s₁.heap.get? b = some o → (s₁.heap.push { cls := .type "list_iterator", data := .fields #[.ref Wl, .int 0 0] }).get? b = some o := fun b o e => Heap.get?_push_of_some _ e
  refine block_two (s₂ := { s₁ with heap := s₁.heap.push { cls := .type "list_iterator", data := .fields #[.ref Wl, .int 0 0] } }) (I := s₁.heap.objs.size) Inv G hh (by rw [Heap.size_push]; rfl) (by rw [Heap.size_push]; exact Nat.lt_succ_self _) ⟨_, Heap.get?_push_size _ rfl, rfl, rfl⟩ hm (fun p hp => Nat.ne_of_lt (Heap.lt_size (N p hp).1)) (Nat.ne_of_lt F.ns.lt) (next_is_new F)
    hcell hkind hx hy hyd (F.keeps up) (N.grown up) h0 (turn _) grow ?_ hs2
  intro D C accs h' tk m' xx o hn hI
  show wpAny _ A (assign (.Name z pz) env (.ref D)) _ _ _
  refine wpAny_assign_Name (wpAny_storeName_local hz xx.fr.ns (fun h₂ hn₂ hs₂ => ?_) hp)
  have hL₀ : h₀.get? env.locals = none := Heap.get?_none_of_le xx.fr.above
  have F₂ : Fr h₀ env.locals h₂ (fun q => if q = z then some (.ref D) else m q) := ⟨hn₂, fun b oo e => hs₂.extBut b oo (fun q => by rw [q, hL₀] at e; cases e) (xx.fr.keep b oo e), xx.fr.above⟩
  refine ⟨m', hn.sameBut hs₂ o.cl, fun h'' hs'' => fin accs D h'' _ hI (F₂.change hs'' o.cl o.c0) (fun p hp => ?_) fun p hp => (o.off p hp).2⟩
  rcases List.mem_cons.mp hp with rfl | hp
  · exact ⟨hs''.extBut _ _ (Ne.symm o.cd) (hs₂.extBut _ _ o.dl xx.acc), o.dl, o.d0⟩
  · exact ⟨hs''.extBut _ _ (o.off p hp).1 (hs₂.extBut _ _ (xx.nw p hp).2.1 (xx.nw p hp).1), (xx.nw p hp).2⟩
end
end Mine

end
/-! LoopC -/
section
open PySem PySem.W PyProof.Rows
set_option maxRecDepth 100000
set_option maxHeartbeats 1000000
namespace Mine
/-! ## a loop whose name is a cell -/
def TurnC {σ : Type} (h₀ : Heap) (L : Addr) (m : PySem.Str → Option Value) (I cx : Addr) (oI o' : Obj) (Led : σ → List (Addr × Obj)) (P : σ → Prop) (s₁ : Shared) (f : Flow) (s₂ : Shared) : Prop :=
  f = .next ∧ ∃ c h' tk, s₂ = { s₁ with heap := h', toks := tk } ∧ Fr h₀ L h' m ∧ News h₀ L h' ((I, oI) :: (cx, o') :: Led c) ∧ (∀ p ∈ Led c, p.1 ≠ I) ∧ P c
theorem TurnC.next {σ : Type} {h₀ : Heap} {L : Addr} {m : PySem.Str → Option Value} {I cx : Addr} {oI o' : Obj} {Led : σ → List (Addr × Obj)} {P : σ → Prop} {s₁ : Shared} {h' : Heap} {tk : Nat} (c : σ)
    (F : Fr h₀ L h' m) (N : News h₀ L h' ((I, oI) :: (cx, o') :: Led c)) (hne : ∀ p ∈ Led c, p.1 ≠ I) (hP : P c) : TurnC h₀ L m I cx oI o' Led P s₁ .next { s₁ with heap := h', toks := tk } := ⟨rfl, c, h', tk, rfl, F, N, hne, hP⟩
def SrcC (prog : Program) (w : World) (A : Around) (h₀ : Heap) (env : Env) (cx : Addr) (body : List Stmt) (Q : Flow → Shared → Prop) (xv : Value) (s₁ : Shared) : Prop :=
  ∃ (σ : Type) (l : Addr) (vs : List Value) (nn : Nat) (oc : Obj) (v₀ : Option Value) (m : PySem.Str → Option Value) (Led : σ → List (Addr × Obj)) (R : Nat → σ → Prop) (c₀ : σ), xv = .ref l ∧ A.handled = none ∧ Fr h₀ env.locals s₁.heap m ∧
    News h₀ env.locals s₁.heap ((cx, oc) :: Led c₀) ∧ oc.data = .cell v₀ ∧ (∀ i c, R i c → (l, listOf vs.toArray nn) ∈ Led c) ∧ R 0 c₀ ∧ (∀ i c, R i c → ∀ p ∈ Led c, p.1 ≠ cx) ∧
    (∀ (c : σ) i v h tk I oI o' (E' : Value → Shared → Prop), vs[i]? = some v → R i c → (∀ p ∈ Led c, p.1 ≠ I) → cx ≠ I → Fr h₀ env.locals h m → News h₀ env.locals h ((I, oI) :: (cx, o') :: Led c) → o'.data = .cell (some v) →
      wpAny (model prog w) A (execs body env) (TurnC h₀ env.locals m I cx oI o' Led (R (i + 1)) s₁) E' { s₁ with heap := h, toks := tk }) ∧
    (∀ c h tk oc', R vs.length c → Fr h₀ env.locals h m → News h₀ env.locals h ((cx, oc') :: Led c) → Q .next { s₁ with heap := h, toks := tk })
theorem for_cell {prog : Program} {w : World} {A : Around} {E : Value → Shared → Prop} {s : Shared} {h₀ : Heap} {env : Env} {x : PySem.Str} {px pos : Pos} {iter : Expr} {body : List Stmt} {Q : Flow → Shared → Prop} {cx : Addr}
    (hk : env.scope.kind = .function) (hx : env.kindOf x = some .cell) (hcx : env.cells.lookup x = some cx) (h : wpAny (model prog w) A (eval iter env) (SrcC prog w A h₀ env cx body Q) E s) (hs : ∀ v, foldedSetIterable iter env v = pure v) :
    wpAny (model prog w) A (exec (.For (.Name x px) iter body [] pos) env) Q E s := by
  refine wpAny_For (wpAny_mono h (fun xv s₁ h₁ => ?_) fun _ _ e => e) hs
  obtain ⟨σ, l, vs, nn, oc, v₀, m, Led, R, c₀, rfl, hh, F, N, hoc, hl, h0, off, turn, done⟩ := h₁
  have hm := N _ (List.mem_cons_of_mem _ (hl 0 c₀ h0))
  have hls : s₁.heap.IsList l vs.toArray := ⟨_, hm.1, rfl, nn, rfl⟩
  have hne : l ≠ s₁.heap.objs.size := Nat.ne_of_lt (Heap.lt_size hm.1)
  refine wpAny_pyIter_list hls ?_
  have W := Walks.list (prog := prog) (w := w) hh s₁.heap.objs.size l hne vs.toArray
  rw [List.size_toArray] at W
  have up : ∀ b oo, s₁.heap.get? b = some oo → (s₁.heap.push { cls := .type "list_iterator", data := .fields #[.ref l, .int 0 0] }).get? b = some oo := fun b oo e => Heap.get?_push_of_some _ e
  have hLI : env.locals ≠ s₁.heap.objs.size := Nat.ne_of_lt F.ns.lt
  have hI0 : h₀.get? s₁.heap.objs.size = none := next_is_new F
  have hcI : cx ≠ s₁.heap.objs.size := Nat.ne_of_lt (Heap.lt_size (N _ (List.mem_cons_self ..)).1)
  have offI : ∀ p ∈ Led c₀, p.1 ≠ s₁.heap.objs.size := fun p hp => Nat.ne_of_lt (Heap.lt_size (N p (List.mem_cons_of_mem _ hp)).1)
  refine codeAny_forLoop_any (fun k s' => ∃ h' tk i c oc' v', s' = { s₁ with heap := h', toks := tk } ∧ i ≤ vs.length ∧ k = vs.length + 1 - i ∧ (h'.IsListIter s₁.heap.objs.size l i ∧ h'.IsList l vs.toArray) ∧ Fr h₀ env.locals h' m ∧
      News h₀ env.locals h' ((cx, oc') :: Led c) ∧ oc'.data = .cell v' ∧ (∀ p ∈ Led c, p.1 ≠ s₁.heap.objs.size) ∧ R i c) ?_ (vs.length + 1)
    ⟨_, _, 0, c₀, oc, v₀, rfl, Nat.zero_le _, rfl, ⟨⟨_, Heap.get?_push_size _ rfl, rfl, rfl⟩, hls.at fun oo e => up _ _ e⟩, F.keeps up, N.grown up, hoc, offI, h0⟩
  rintro k s' ⟨h', tk, i, c, oc', v', rfl, hi, rfl, st, F', N', hoc', off', hR⟩
  by_cases hlt : i < vs.length
  · refine W.item i _ _ _ hlt st fun v h₂ tk₂ hPv st₂ hk₂ => ?_
    refine wpAny_of_eq rfl ?_
    have F₂ := LCg.fr_but F' hk₂ hLI hI0
    have N₂ : News h₀ env.locals h₂ ((cx, oc') :: Led c) := LCg.news_but N' hk₂ fun p hp => by
      rcases List.mem_cons.mp hp with rfl | hp
      · exact hcI
      · exact off' p hp
    have hcm := N₂ _ (List.mem_cons_self ..)
    refine wpAny_assign_Name (wpAny_storeName_cell hk hx hcx ⟨oc', hcm.1, hoc'⟩ fun h₃ hc₃ hs₃ => ?_)
    obtain ⟨o3, ho3, hd3⟩ := hc₃
    have F₃ : Fr h₀ env.locals h₃ m := F₂.change hs₃ hcm.2.1 hcm.2.2
    obtain ⟨oI, heI, hoI⟩ := st₂.1
    have eI : h₃.get? s₁.heap.objs.size = some oI := hs₃.extBut _ _ (Ne.symm hcI) heI
    have N₃ : News h₀ env.locals h₃ ((s₁.heap.objs.size, oI) :: (cx, o3) :: Led c) := fun p hp => by
      rcases List.mem_cons.mp hp with rfl | hp
      · exact ⟨eI, Ne.symm hLI, hI0⟩
      rcases List.mem_cons.mp hp with rfl | hp
      · exact ⟨ho3, hcm.2⟩
      · exact ⟨hs₃.extBut _ _ (off i c hR p hp) (N₂ p (.tail _ hp)).1, (N₂ p (.tail _ hp)).2⟩
    have hv : vs[i]? = some v := by simpa using hPv
    refine wpAny_mono (turn c i v h₃ _ _ oI o3 _ hv hR off' hcI F₃ N₃ hd3) (fun f s₃ h₄ => ?_) fun _ _ e => e
    obtain ⟨rfl, c', h₄, tk₄, rfl, F₄, N₄, off₄, hR₄⟩ := h₄
    exact ⟨vs.length + 1 - (i + 1), by omega, h₄, tk₄, i + 1, c', o3, _, rfl, hlt, rfl, ⟨⟨oI, (N₄ _ (.head _)).1, hoI⟩, ⟨_, (N₄ _ (.tail _ (.tail _ (hl _ _ hR₄)))).1, rfl, nn, rfl⟩⟩, F₄, fun p hp => N₄ p (.tail _ hp), hd3, off₄, hR₄⟩
  · obtain rfl : i = vs.length := Nat.le_antisymm hi (Nat.not_lt.mp hlt)
    refine W.done _ _ _ st fun h₂ tk₂ hk₂ => ?_
    have F₂ := LCg.fr_but F' hk₂ hLI hI0
    have N₂ : News h₀ env.locals h₂ ((cx, oc') :: Led c) := LCg.news_but N' hk₂ fun p hp => by
      rcases List.mem_cons.mp hp with rfl | hp
      · exact hcI
      · exact off' p hp
    exact wpAny_execs_nil (done c h₂ tk₂ oc' hR F₂ N₂)
end Mine

end
/-! Lam -/
section
open PySem PySem.W PyProof.Rows
set_option maxRecDepth 100000
set_option maxHeartbeats 4000000
namespace Mine
theorem code_hd {w : World} {h : Heap} (X : (hd.heap_39 w.params).In h) : CodeHd h 106 104 :=
  ⟨_, _, _, _, _, _, _, _, _, X 106 _ rfl, rfl, rfl, rfl, rfl, rfl, rfl, rfl, rfl, by decide⟩
/-- the code table, and the code record that it holds -/
def TabIs (pos : Pos) (qual : PySem.Str) (ps : Array Value) (ex : List (Addr × Obj)) : Prop :=
  (ps = #[] ∧ ex = []) ∨ ∃ (c' : Addr) (oc : Obj) (vs : Array Value) (t : Tok), ps = #[rawInt pos.line, rawInt pos.col, .ref c'] ∧ ex = [(c', oc)] ∧ oc.data = .fields vs ∧ vs[1]? = some (.str qual t)
theorem updF_mid {P : Addr} {o : Obj} {rest : List (Addr × Obj)} : ∀ own : List (Addr × Obj), (∀ q ∈ own, q.1 ≠ P) → (∀ q ∈ rest, q.1 ≠ P) → UpdF P o (own ++ (P, o) :: rest) (fun o' => own ++ (P, o') :: rest)
  | [], _, h2 => UpdF.head h2
  | q :: r, h1, h2 => UpdF.tail (h1 q (List.mem_cons_self ..)) (updF_mid r (fun p hp => h1 p (List.mem_cons_of_mem _ hp)) h2)
section
variable {M : Model} {A : Around} {E : Value → Shared → Prop} {s : Shared} {h₀ : Heap} {L a c P : Addr} {m mg mb : PySem.Str → Option Value} {cn : PySem.Str} {cs : Scope} {ccd : Value} {cl : List (PySem.Str × Addr)} {rest own : List (Addr × Obj)}
  {p : Program} {loose : List PySem.Str} {mean : ExcName → Option Value} {params : Arguments} {body : Expr} {scope : Scope} {ps : Array Value} {ex : List (Addr × Obj)} {pos : Pos} {clos : List (PySem.Str × Addr)}
theorem lambda_K {Q : Value → Shared → Prop} (hdef : defaultsOf params (envX cn cs L a ccd cl) = ([], [])) (F : Fr h₀ L s.heap m) (N : News h₀ L s.heap (own ++ (P, tabObj ps) :: (ex ++ rest))) (T : Top p loose mean mg mb h₀) (C : CodeHd h₀ c P) (hcd : ccd = .ref c)
    (hT : TabIs pos ((envX cn cs L a ccd cl).qual ++ "<lambda>") ps ex) (h1 : ∀ q ∈ own, q.1 ≠ P) (h2 : ∀ q ∈ ex ++ rest, q.1 ≠ P) (h3 : ∀ q ∈ own, ∀ c' oc, (c', oc) ∈ ex ++ rest → q.1 ≠ c') (hcl : closureFor scope (envX cn cs L a ccd cl) = pure clos)
    (h : ∀ f ctv ps' ex' h' tk, Fr h₀ L h' m → (∃ c' oc vs t, ps' = #[rawInt pos.line, rawInt pos.col, .ref c'] ∧ ex' = [(c', oc)] ∧ oc.data = .fields vs ∧ vs[1]? = some (.str ((envX cn cs L a ccd cl).qual ++ "<lambda>") t) ∧
      News h₀ L h' ((f, kla_obj "<lambda>" ((envX cn cs L a ccd cl).qual ++ "<lambda>") params body scope clos ((mg "__name__").getD .none) c' ctv) :: (own ++ (P, tabObj ps') :: (ex' ++ rest))) ∧ (∀ q ∈ own, q.1 < f ∧ q.1 ≠ c') ∧ (∀ q ∈ rest, q.1 < f)) → Q (.ref f) { s with heap := h', toks := tk }) :
    wpAny M A (eval (.Lambda params body scope pos) (envX cn cs L a ccd cl)) Q E s := by
  refine kla_eval hdef ?_
  rcases hT with ⟨rfl, rfl⟩ | ⟨c', oc, vs, t, rfl, rfl, hd, hv⟩
  · refine kla_nest F N T C hcd (updF_mid own h1 h2) trivial rfl hcl fun f c' oc vs t ctv h' tk F' N' d1 d2 l1 l2 => ?_
    refine h f ctv _ [(c', oc)] h' tk F' ⟨c', oc, vs, t, rfl, rfl, d1, d2, fun q hq => N' q ?_, fun q hq => ?_, fun q hq => ?_⟩
    · simp only [List.mem_cons, List.mem_append, List.nil_append, List.singleton_append] at hq ⊢
      rcases hq with hq | hq | hq | hq | hq
      · exact .inl hq
      · exact .inr (.inr (.inl hq))
      · exact .inr (.inr (.inr (.inl hq)))
      · exact .inr (.inl hq)
      · exact .inr (.inr (.inr (.inr hq)))
    · have := l1 q (List.mem_append_left _ hq)
      exact ⟨Nat.lt_trans this l2, Nat.ne_of_lt this⟩
    · exact Nat.lt_trans (l1 q (List.mem_append_right _ (.tail _ hq))) l2
  · refine kla_hit (c' := c') F N T C hcd (List.mem_append_right _ (.head _)) (by exact trivial) (by simp [codeAmong, rawInt]) hcl fun f ctv h' tk F' N' l1 => ?_
    refine h f ctv _ [(c', oc)] h' tk F' ⟨c', oc, vs, t, rfl, rfl, hd, hv, N', fun q hq => ⟨l1 q (List.mem_append_left _ hq), ?_⟩, fun q hq => l1 q (List.mem_append_right _ (.tail _ (.tail _ hq)))⟩
    exact h3 q hq c' oc (List.mem_append_left _ (.head _))
end
end Mine

end
/-! Sorts -/
section
open PySem PySem.W PyProof.Rows
set_option maxRecDepth 100000
set_option maxHeartbeats 1000000
namespace Mine
/-! ## sorted(texts, key=f), f giving the length -/
theorem mem_zip_map {α β : Type} (f : α → β) : ∀ {l : List α} {p : β × α}, p ∈ (l.map f).zip l → p.1 = f p.2
  | [], p, h => by cases h
  | a :: l, p, h => by
    simp only [List.map_cons, List.zip_cons_cons, List.mem_cons] at h
    rcases h with rfl | h
    · rfl
    · exact mem_zip_map f h
/-- the text of a value -/
def txOf : Value → List Nat
  | .str x _ => x.cps.toList
  | _ => []
theorem strs_tx : ∀ {vs : List Value} {ys : List (List Nat)}, StrsAre vs (ys.map S) → vs.map txOf = ys
  | _, [], .nil => rfl
  | _, y :: ys, .cons _ t h => by rw [List.map_cons, strs_tx h]; rfl
theorem strs_all : ∀ {vs : List Value} {ys : List (List Nat)}, StrsAre vs (ys.map S) → ∀ v ∈ vs, ∃ y t, v = .str (S y) t
  | _, [], .nil, v, hv => by cases hv
  | _, y :: ys, .cons _ t h, v, hv => by
    rcases List.mem_cons.mp hv with rfl | hv
    · exact ⟨y, t, rfl⟩
    · exact strs_all h v hv
theorem strs_made : ∀ (vs : List Value), (∀ v ∈ vs, ∃ y t, v = .str (S y) t) → StrsAre vs ((vs.map txOf).map S)
  | [], _ => .nil
  | v :: vs, h => by
    obtain ⟨y, t, rfl⟩ := h v (List.mem_cons_self ..)
    exact .cons (S y) t (strs_made vs fun x hx => h x (List.mem_cons_of_mem _ hx))
section
variable {prog : Program} {w : World} {A : Around} {E : Value → Shared → Prop} {s : Shared} {h₀ : Heap} {L l : Addr} {m : PySem.Str → Option Value} {news : List (Addr × Obj)} {vs : List Value} {Q : Value → Shared → Prop}
theorem sorted_S {c : Nat} {ws : List (List Nat)} {f : Value} {kw : List (PySem.Str × Value)} (F : Fr h₀ L s.heap m) (N : News h₀ L s.heap news) (hm : (l, listOf vs.toArray c) ∈ news) (hS : StrsAre vs (ws.map S)) (h64 : ws.length < 64)
    (ha1 : argsOk "sorted" ⟨[.ref l], kw⟩) (ha2 : ∀ x, argsOk "list.sort" ⟨[.ref x], kw⟩) (ht : ∀ x, Builtin.«list.sort» ⟨[.ref x], kw⟩ = ksk_tree x f false)
    (turn : ∀ (u : List Nat) (tu : Tok) (h : Heap) (tk : Nat) (own : List (Addr × Obj)), u ∈ ws → Fr h₀ L h m → News h₀ L h (news ++ own) →
      wpAny (model prog w) A.in1.in1 (call f [.str (S u) tu]) (KskEnd h₀ L m (news ++ own) (u.length : Int) { s with heap := h, toks := tk }) (fun _ _ => False) { s with heap := h, toks := tk })
    (done : ∀ (D : Addr) (vs' : List Value) (sl : List (List Nat)) (c : Nat) (h' : Heap) (tk : Nat), Fr h₀ L h' m → News h₀ L h' ((D, PySem.W.listOf (List.toArray vs') c) :: news) → (∀ q ∈ news, q.1 < D) → StrsAre vs' (sl.map S) → sl.Perm ws → sl.Pairwise (fun a b => a.length ≤ b.length) →
      Q (.ref D) { s with heap := h', toks := tk }) :
    wpAny (model prog w) A (call (.builtin "sorted") [.ref l] kw) Q E s := by
  have hlen := strs_len hS
  have hls : s.heap.IsList l vs.toArray := ⟨_, (N _ hm).1, rfl, c, rfl⟩
  refine ksk_sorted (kz := ws.map fun u => (u.length : Int)) F N hls (by rw [List.length_map, hlen]) (by omega) ha1 ha2 ht (fun i v k hv hk h tk own F' N' => ?_) fun D h' tk out c F' N' l1 ko => ?_
  · obtain ⟨u, tu, hu, rfl⟩ := strs_at hS hv
    rw [List.getElem?_map, hu] at hk
    cases hk
    exact turn u tu h tk own (List.mem_of_getElem? hu) F' N'
  · obtain ⟨ps, hp, ho, hs⟩ := ko
    have e0 : ws.map (fun u => (u.length : Int)) = vs.map fun v => ((txOf v).length : Int) := by
      rw [← strs_tx hS, List.map_map]; rfl
    rw [e0] at hp
    have hrel : ∀ p ∈ ps, p.1 = ((txOf p.2).length : Int) ∧ p.2 ∈ vs := fun p hq => by
      have h1 := hp.mem_iff.mp hq
      exact ⟨mem_zip_map _ h1, (List.of_mem_zip h1).2⟩
    have hI := strs_made (ps.map Prod.snd) fun v hv => by
      obtain ⟨p, hp', rfl⟩ := List.mem_map.mp hv
      exact strs_all hS _ (hrel p hp').2
    have hP : ((ps.map Prod.snd).map txOf).Perm ws := by
      have h1 := (hp.map Prod.snd).map txOf
      rw [List.map_snd_zip (by rw [List.length_map]; omega), strs_tx hS] at h1
      exact h1
    have hO : ((ps.map Prod.snd).map txOf).Pairwise (fun x y => x.length ≤ y.length) := by
      rw [List.pairwise_map, List.pairwise_map]
      refine hs.imp_of_mem fun {p q} hp' hq' hr => ?_
      have hr' : p.1 ≤ q.1 := hr
      rw [(hrel p hp').1, (hrel q hq').1] at hr'
      exact Int.ofNat_le.mp hr'
    rw [← ho] at hI hP hO
    exact done D out.toList _ c h' tk F' N' l1 hI hP hO
theorem len_T {l : List Nat} {t : Tok} (hl : l.length ≤ 1000000) (h : ∀ t' k, Q (.int ((l.length : Nat) : Int) t') { s with toks := k }) : wpAny (model prog w) A (call (.builtin "len") [.str (S l) t]) Q E s := by
  have e : (S l : PySem.Str).length = l.length := by show l.toArray.size = _; rw [List.size_toArray]
  refine PyProof.Rows.len_str (by rw [e]; omega) ?_
  rw [e]; exact h _ _
theorem SrcC.mk {env : Env} {cx : Addr} {body : List Stmt} {R' : Flow → Shared → Prop} {s₁ : Shared} {σ : Type} {l : Addr} {vs : List Value} {nn : Nat} {oc : Obj} {v₀ : Option Value} {m : PySem.Str → Option Value} (Led : σ → List (Addr × Obj)) (R : Nat → σ → Prop) (c₀ : σ) (hh : A.handled = none)
    (F : Fr h₀ env.locals s₁.heap m) (N : News h₀ env.locals s₁.heap ((cx, oc) :: Led c₀)) (hoc : oc.data = .cell v₀) (hl : ∀ i c, R i c → (l, listOf vs.toArray nn) ∈ Led c) (h0 : R 0 c₀) (off : ∀ i c, R i c → ∀ p ∈ Led c, p.1 ≠ cx)
    (turn : ∀ (c : σ) (i : Nat) (v : Value) (h : Heap) (tk : Nat) (I : Addr) (oI o' : Obj) (E' : Value → Shared → Prop), vs[i]? = some v → R i c → (∀ p ∈ Led c, p.1 ≠ I) → cx ≠ I → Fr h₀ env.locals h m → News h₀ env.locals h ((I, oI) :: (cx, o') :: Led c) → o'.data = .cell (some v) →
      wpAny (model prog w) A (execs body env) (TurnC h₀ env.locals m I cx oI o' Led (R (i + 1)) s₁) E' { s₁ with heap := h, toks := tk })
    (done : ∀ (c : σ) (h : Heap) (tk : Nat) (oc' : Obj), R vs.length c → Fr h₀ env.locals h m → News h₀ env.locals h ((cx, oc') :: Led c) → R' .next { s₁ with heap := h, toks := tk }) : SrcC prog w A h₀ env cx body R' (.ref l) s₁ :=
  ⟨σ, l, vs, nn, oc, v₀, m, Led, R, c₀, rfl, hh, F, N, hoc, hl, h0, off, turn, done⟩
end
end Mine

end
/-! F7 -/
section
open PySem PySem.W PyProof.Rows
set_option maxRecDepth 100000
set_option maxHeartbeats 8000000
namespace Mine

local macro_rules | `(tactic| walk_at "asS") => `(tactic| first | with_reducible exact lit_l | with_reducible exact lit_r | with_reducible exact lit_rl | with_reducible exact lit_d | with_reducible exact lit_d2 | with_reducible exact lit_e | with_reducible exact lit_sl | with_reducible exact lit_z | with_reducible exact lit_st | with_reducible exact rfl)
local macro_rules | `(tactic| walk_at "lens") => `(tactic| first | omega | ((simp only [List.length_append, List.length_cons, List.length_nil, List.length_drop, List.length_take, List.length_map, List.length_replicate]); omega) | ((simp only [List.length_append, List.length_cons, List.length_nil, List.length_drop, List.length_take, List.length_map, List.length_replicate] at *); omega))
local macro_rules | `(tactic| walk_at "pyIter ref") => `(tactic| (k_here; refine Stopped.here ?_))

local macro_rules | `(tactic| walk_at "compareOp In str str") => `(tactic| (k_here; (with_reducible show wpAny _ _ (compareOp _ (Value.str _ _) (Value.str _ _)) _ _ _); k_dflt (refine' in_S ?k1 ?k2 ?_; (case k1 => walk_at "asS"); (case k2 => walk_at "asS"))))

local macro_rules | `(tactic| walk_at "eval ListComp") => `(tactic| (k_here; refine Stopped.here ?_))
local macro_rules | `(tactic| walk_at "CompSrcT") => `(tactic| (k_here; refine Stopped.here ?_))
local macro_rules | `(tactic| walk_at "exec If") => `(tactic| (k_here; refine Stopped.here ?_))


local macro_rules | `(tactic| walk_at "upd") => `(tactic| first | (refine' Upd.head ?a; (case a => exact fun p hp => Nat.ne_of_lt (lt_of_all _ (by assumption) p hp))) | (refine' Upd.tail ?a ?b; (case a => first | (refine Ne.symm ?_; assumption) | k_ne); (case b => walk_at "upd")))
local macro_rules | `(tactic| walk_at "allLt") => `(tactic| first | assumption | (apply And.right; assumption) | (apply And.right; apply And.right; assumption) | (apply And.right; apply And.right; apply And.right; assumption) | (apply And.right; apply And.right; apply And.right; apply And.right; assumption) | (apply And.right; apply And.right; apply And.right; apply And.right; apply And.right; assumption))
local macro_rules | `(tactic| walk_at "compareOp Eq ref ref") => `(tactic| (k_here; refine Stopped.here ?_))
local macro_rules | `(tactic| walk_at "exec Assign cons ListComp") => `(tactic| (k_here; refine Stopped.here ?_))
theorem words_len : ∀ (n : Nat) (ws : List (List Nat)) (b : Nat), (∀ u ∈ ws, u.length ≤ b) → ∀ u ∈ words n ws, u.length ≤ b + 2 * n
  | 0, ws, b, h, u, hu => h u hu
  | n + 1, ws, b, h, u, hu => by
    rw [words_succ] at hu
    obtain ⟨v, hv, hu⟩ := List.mem_flatMap.mp hu
    have h1 := words_len n ws b h v hv
    have h2 := undone_len hu
    omega
local macro_rules | `(tactic| walk_at "call ref") => `(tactic| (k_here; k_dflt (
  (refine' Con.use (undone_con _ _ _ _ ?k0 ?k9) ?k1 ?k2 ?k3 ?k4 ?k5 ?k6 ?k7 ?k8 ?_;
   (case k0 => assumption); (case k9 => assumption); (case k1 => k_asm); (case k2 => k_asm); (case k3 => k_asm); (case k4 => k_asm); (case k5 => k_asm); (case k6 => first | rfl | assumption); (case k7 => ktr_room); (case k8 => ktr_units)))))
local macro_rules | `(tactic| walk_at "enterL") => `(tactic| (refine' kla_code ?k1 ?k2 ?k3 ?k4 ?k5 ?kA ?kF ?kK ?k6 ?k7 ?k8 ?k9 ?kB ?_ ?c2 ?c3 ?c4 ?c5; (case kA => exact rfl); (case kF => exact rfl); (case kK => exact rfl); (case k1 => k_asm); (case k2 => k_asm); (case k3 => k_asm); (case k4 => k_asm); (case k5 => k_asm); (case k6 => k_mem); (case k7 => exact codeRec_news (by k_asm) (by k_mem) (by assumption) (by assumption)); (case k8 => ktr_room); (case k9 => exact rfl); (case c5 => decide); (case kB => exact locs rfl); (case c2 => exact rfl); (case c3 => exact rfl); (case c4 => exact rfl); k_whole; intro g' L' h' FG' F' N' B' X' T'; (try dsimp only); (try k_lift B'); (try k_fold)))
theorem least_sub : ∀ (ws L : List (List Nat)), ∀ x ∈ ws.foldl addLeast L, x ∈ L ∨ x ∈ ws
  | [], L, x, h => .inl h
  | a :: ws, L, x, h => by
    rw [List.foldl_cons] at h
    rcases least_sub ws _ x h with h | h
    · unfold addLeast at h
      split at h
      · rcases List.mem_append.mp h with h | h
        · exact .inl h
        · exact .inr (by rw [List.mem_singleton.mp h]; exact List.mem_cons_self ..)
      · exact .inl h
    · exact .inr (List.mem_cons_of_mem _ h)
theorem least_len : ∀ (ws L : List (List Nat)), (ws.foldl addLeast L).length ≤ L.length + ws.length
  | [], L => Nat.le_refl _
  | a :: ws, L => by
    rw [List.foldl_cons]
    have h1 := least_len ws (addLeast L a)
    have h2 : (addLeast L a).length ≤ L.length + 1 := by
      unfold addLeast
      split
      · simp
      · omega
    simp only [List.length_cons]
    omega
theorem least_take {sl : List (List Nat)} {i : Nat} {u : List Nat} (hu : sl[i]? = some u) : leastOf (sl.take (i + 1)) = addLeast (leastOf (sl.take i)) u := by
  unfold leastOf
  rw [List.take_add_one, hu, List.foldl_append]
  rfl
abbrev lamPos : Pos := ⟨83, 33, 83, 55⟩
abbrev lamQual : PySem.Str := PySem.Str.ofString "_law_least" ++ ".<locals>." ++ "<lambda>"
abbrev RetLeast (news : List (Addr × Obj)) (l : List Nat) (n : Nat) (h₀ : Heap) (L : Addr) (m : PySem.Str → Option Value) (s : Shared) (Q : Value → Shared → Prop) : Prop :=
  ∀ (sl : List (List Nat)) (D : Addr) (vs : List Value) (c : Nat) (ps' : Array Value) (ex' : List (Addr × Obj)) (h' : Heap) (tk' : Nat), sl.Perm (words n [l]) → sl.Pairwise (fun a b => a.length ≤ b.length) → TabIs lamPos lamQual ps' ex' → Fr h₀ L h' m →
    News h₀ L h' ((D, listOf vs.toArray c) :: (104, tabObj ps') :: (ex' ++ news)) → StrsAre vs ((leastOf sl).map S) → Q (.ref D) { s with heap := h', toks := tk' }
theorem least_con (w : World) {p : Program} {loose : List PySem.Str} {mean : ExcName → Option Value} {mg mb : PySem.Str → Option Value} (news : List (Addr × Obj)) (l : List Nat) (t t2 : Tok) (n : Nat) (h3 : 3 ≤ l.length) (hl : l.length ≤ 6) (hA : ∀ c ∈ l, c < 128) (h1n : 1 ≤ n) (hn : n ≤ 3) (ps : Array Value) (ex : List (Addr × Obj)) (hT : TabIs lamPos lamQual ps ex) (hP : ∀ q ∈ ex ++ news, q.1 ≠ 104) :
    Con 107 4 200 w p loose mean mg mb ((104, tabObj ps) :: (ex ++ news)) [.str (S l) t, .int n t2] (RetLeast news l n) := by
  unfold Con
  k_fill
  refine' con_ofC (PySem.Str.ofString "word") (.str (S l) t) [(PySem.Str.ofString "times", .int n t2)] ?ho ?hcd ?hb ?hl ?hkd ?hnd (by decide) ?h ?c1 ?c2 ?c3
  case ho => exact rfl
  case hcd => exact rfl
  case hb => exact fun s => BindsTo.of_eq rfl
  case hl => exact rfl
  case hkd => exact rfl
  case hnd => decide +kernel
  case c1 => exact rfl
  case c2 => exact rfl
  case c3 => exact rfl
  case h =>
    intro dp un gd cn cs a ccd cl outer base h₀ L m s Q E hd hu hk ret g' L' h' tk cells' htk FG' F' N' Y' B' X' T' l1
    show wpAny _ _ _ _ _ _
    (try k_lt l1)
    obtain ⟨oc, hE, d1⟩ := CellsAre.one Y'
    subst hE
    simp only [List.cons_append, List.nil_append] at N'
    (try dsimp only)
    show wpAny _ _ _ _ _ _
    k_fold
    k_steps
    unfold Stopped
    refine wl_range (n := n) (σ := Addr × List Value × Nat × List (List Nat)) (fun st => (st.1, listOf st.2.1.toArray st.2.2.1) :: (L' + 1, oc) :: (104, tabObj ps) :: (ex ++ news)) (fun st => [(PySem.Str.ofString "words", .ref st.1)]) []
      (fun i st => StrsAre st.2.1 (st.2.2.2.map S) ∧ st.2.2.2 = words i [l] ∧ ∀ p ∈ (L' + 1, oc) :: (104, tabObj ps) :: (ex ++ news), p.1 ≠ st.1) (_, [.str (S l) t], 0, [l]) rfl (by assumption) (rsmall 0 n (by omega) (by omega)) (rsize n) (by k_asm) (by k_asm) ?hk ?h0 ?turn ?done
    case hk => kst_all
    case h0 => exact ⟨strs_one _ _, rfl, fun p hp => Nat.ne_of_lt (lt_of_all _ (by walk_at "allLt") p hp)⟩
    case turn =>
      rintro ⟨Dw, vw, cw, ws⟩ i ti u h tk I oI hi ⟨hS, hws, hDw⟩ hne F9 N9
      dsimp only at hS hws hDw hne N9
      dsimp only [kstB] at F9
      show wpAny _ _ _ _ _ _
      k_fold
      k_steps
      unfold Stopped
      refine Assign_two (F₀ := by k_asm) (by rfl) (by with_unfolding_all rfl) (by with_unfolding_all rfl) (by decide) (by rfl) (by decide) (by rfl) (by rfl) (by rfl) (by rfl) (by rfl) ?hsrc (by intro _; rfl) (by intro _ _; rfl)
      k_steps
      have hwl : ∀ u ∈ ws, u.length ≤ 14 := fun u hu => by
        have := words_len i [l] 6 (by intro y hy; rw [List.mem_singleton.mp hy]; exact hl) u (hws ▸ hu)
        omega
      have hwc : ∀ u ∈ ws, ∀ c ∈ u, c < 128 := fun u hu => words_all (fun w => ∀ c ∈ w, c < 128) (fun w u hw hu => undone_mem _ (by decide) (by decide) hw hu) i [l] (by intro y hy; rw [List.mem_singleton.mp hy]; exact hA) u (hws ▸ hu)
      have hw1 : ws.flatMap undone = words (i + 1) [l] := by rw [words_succ, ← hws]
      have hw64 := words_lt h3 hl (n := i + 1) (by omega) (by omega)
      refine ⟨Dw, vw, cw, (I, oI) :: (Dw, listOf vw.toArray cw) :: (L' + 1, oc) :: (104, tabObj ps) :: (ex ++ news), fun j accs => StrsAre accs (((ws.take j).flatMap undone).map S), fun j v => ∃ u, ws[j]? = some u ∧ StrsAre v ((undone u).map S),
        rfl, rfl, by k_asm, by k_asm, by k_mem, .nil, ?tn, ?gr, ?fn⟩
      case tn =>
        intro g i2 v I2 oI2 C oC D m₂ accs h2 tk2 E' hv2 hInv hC hx F2 N2
        obtain ⟨u2, tu2, hu2, rfl⟩ := strs_at hS hv2
        have k0 := hwl u2 (List.mem_of_getElem? hu2)
        have k9 := hwc u2 (List.mem_of_getElem? hu2)
        dsimp only
        show wpAny _ _ _ _ _ _
        k_steps
        exact ⟨_, _, _, _, _, rfl, rfl, by k_asm, by k_asm, by assumption, u2, hu2, by assumption⟩
      case gr =>
        rintro j accs wx hj hI ⟨u2, hu2, hG⟩
        have e1 : (ws.take (j + 1)).flatMap undone = (ws.take j).flatMap undone ++ undone u2 := by rw [List.take_add_one, hu2, List.flatMap_append]; simp
        have e2 : StrsAre (accs ++ wx) (((ws.take (j + 1)).flatMap undone).map S) := by rw [e1]; exact strs_append hI hG
        refine ⟨e2, ?_⟩
        have e3 := strs_len e2
        have e4 : ws.flatMap undone = (ws.take (j + 1)).flatMap undone ++ (ws.drop (j + 1)).flatMap undone := by rw [← List.flatMap_append, List.take_append_drop]
        have e5 := congrArg List.length e4
        rw [hw1, List.length_append] at e5
        rw [List.length_append] at e3
        omega
      case fn =>
        intro accs D h2 tk2 hI F2 N2 off2
        rw [strs_len hS, List.take_length, hw1] at hI
        dsimp only
        k_steps
        refine' TurnEnd.next (c := (D, accs, accs.length, words (i + 1) [l])) ?e1 ?e2 ?e3 ?e4 ?e5 ?e6 ?e7 ?e8
        case e1 => k_asm
        case e2 => k_asm
        case e3 => exact .tail _ (.head _)
        case e4 =>
          intro p hp
          rcases List.mem_cons.mp hp with rfl | hp
          · exact .head _
          · exact .tail _ (.tail _ (.tail _ hp))
        case e5 =>
          intro p hp
          rcases List.mem_cons.mp hp with rfl | hp
          · exact Ne.symm (off2 _ (.head _))
          · exact hne p (.tail _ hp)
        case e6 => kst_all
        case e7 => kst_same
        case e8 => exact ⟨hI, rfl, fun p hp => off2 p (.tail _ (.tail _ hp))⟩
    case done =>
      rintro ⟨Dw, vw, cw, ws⟩ u h tk ⟨hS, hws, hDw⟩ F9 N9
      dsimp only at hS hws hDw N9
      dsimp only [kstB] at F9
      k_steps
      refine for_cell (h₀ := g') (cx := L' + 1) (by rfl) (by rfl) (by rfl) ?hit (by intro _; rfl)
      k_steps
      with_reducible rename _ < _ ∧ _ < _ ∧ 104 < _ ∧ AllLt _ _ => l9
      rename_i LS _ _ _ _ _ _
      refine lambda_K (c := 106) (P := 104) (own := [_, _, _]) (ps := ps) (ex := ex) (rest := news) (by rfl) (by k_asm) (by k_asm) (by k_asm) (code_hd (by k_asm)) rfl hT ?p1 hP ?p3 (by rfl) ?lam
      case p1 =>
        intro q hq
        simp only [List.mem_cons, List.not_mem_nil, or_false] at hq
        rcases hq with rfl | rfl | rfl
        · exact Nat.ne_of_gt l9.2.2.1
        · exact Ne.symm (hDw (104, tabObj ps) (.tail _ (.head _)))
        · exact Nat.ne_of_gt (Nat.lt_succ_of_lt l1.1)
      case p3 =>
        intro q hq c' o' hc
        simp only [List.mem_cons, List.not_mem_nil, or_false] at hq
        rcases hq with rfl | rfl | rfl
        · exact Nat.ne_of_gt (lt_of_all _ l9.2.2.2 _ hc)
        · exact Ne.symm (hDw (c', o') (.tail _ (.tail _ hc)))
        · exact Nat.ne_of_gt (Nat.lt_succ_of_lt (lt_of_all _ l1.2 _ hc))
      case lam =>
        rintro f ctv ps' ex' h9 tk9 F10 ⟨c', oc', vsx, tx, ep, ee, hd1, hd2, N10, lo, lr⟩
        subst ep
        subst ee
        have hwl : ∀ u ∈ ws, u.length ≤ 14 := fun u hu => by
          have := words_len n [l] 6 (by intro y hy; rw [List.mem_singleton.mp hy]; exact hl) u (hws ▸ hu)
          omega
        have hwc : ∀ u ∈ ws, ∀ c ∈ u, c < 128 := fun u hu => words_all (fun w => ∀ c ∈ w, c < 128) (fun w u hw hu => undone_mem _ (by decide) (by decide) hw hu) n [l] (by intro y hy; rw [List.mem_singleton.mp hy]; exact hA) u (hws ▸ hu)
        have hw64 : ws.length < 64 := by rw [hws]; exact words_lt h3 hl h1n hn
        show wpAny _ _ _ _ _ _
        k_steps
        show wpAny _ _ (call (Value.builtin "sorted") [Value.ref Dw] [(PySem.Str.ofString "key", Value.ref f)]) _ _ _
        refine sorted_S (c := cw) (ws := ws) (by k_asm) (by k_asm) (by k_mem) hS hw64 (ksk_s1 _ _) (fun x => ksk_l1 _ _) (fun x => ksk_t1 _ _) ?tn ?dn
        case tn =>
          intro u2 tu2 h2 tk2 own hu2 F2 N2
          simp only [List.cons_append, List.nil_append, List.singleton_append] at N2
          refine wpAny_call ?_
          walk_at "enterL"
          k_steps
          have hu3 := hwl u2 hu2
          refine len_T (by omega) ?_
          intro t8 k8
          k_steps
        case dn =>
          intro D vs' sl c h2 tk2 F2 N2 l2 hS2 hp2 hpw
          simp only [List.cons_append, List.nil_append, List.singleton_append] at N2
          k_steps
          have hLD : LS < D := l2 (LS, listOf #[] 0) (by k_mem)
          have hcD : ∀ p ∈ (c', oc') :: news, p.1 < D := fun p hp => l2 p (.tail _ (.tail _ (.tail _ (.tail _ (.tail _ hp)))))
          have hPD : 104 < D := l2 (104, _) (.tail _ (.tail _ (.tail _ (.tail _ (.head _)))))
          have hXD : L' + 1 < D := l2 (L' + 1, _) (.tail _ (.tail _ (.tail _ (.head _))))
          have hcL : ∀ p ∈ (c', oc') :: news, p.1 ≠ LS := fun p hp => by
            rcases List.mem_cons.mp hp with rfl | hp
            · exact Ne.symm (lo (LS, listOf #[] 0) (.head _)).2
            · exact Nat.ne_of_lt (lt_of_all _ l9.2.2.2 p (List.mem_append_right _ hp))
          have hcX : ∀ p ∈ (c', oc') :: news, p.1 ≠ L' + 1 := fun p hp => by
            rcases List.mem_cons.mp hp with rfl | hp
            · exact Ne.symm (lo (L' + 1, oc) (.tail _ (.tail _ (.head _)))).2
            · exact Nat.ne_of_lt (Nat.lt_succ_of_lt (lt_of_all _ l1.2 p (List.mem_append_right _ hp)))
          have hslw : ∀ u ∈ sl, u ∈ ws := fun u hu => hp2.mem_iff.mp hu
          have hsll := hp2.length_eq
          refine SrcC.mk (v₀ := none) (oc := oc) (fun st : List Value × Nat => (LS, listOf st.1.toArray st.2) :: (D, listOf vs'.toArray c) :: (104, tabObj #[rawInt lamPos.line, rawInt lamPos.col, .ref c']) :: (c', oc') :: news)
            (fun i st => StrsAre st.1 ((leastOf (sl.take i)).map S)) ([], 0) rfl (by k_asm) ?g1 d1 (fun _ _ _ => .tail _ (.head _)) .nil ?g2 ?g3 ?g4
          case g1 =>
            intro p hp
            refine N2 p ?_
            simp only [List.mem_cons] at hp ⊢
            rcases hp with hp | hp | hp | hp | hp | hp <;> simp [hp]
          case g2 =>
            intro i st _ p hp
            rcases List.mem_cons.mp hp with rfl | hp
            · exact Nat.ne_of_gt l9.2.1
            rcases List.mem_cons.mp hp with rfl | hp
            · exact Nat.ne_of_gt hXD
            rcases List.mem_cons.mp hp with rfl | hp
            · exact Nat.ne_of_lt (Nat.lt_succ_of_lt l1.1)
            exact hcX p hp
          case g3 =>
            rintro ⟨lv, lc⟩ i v h tk I oI o' E' hv hR offI hcI F N hod
            obtain ⟨u, tu, hu, rfl⟩ := strs_at hS2 hv
            have hu0 := hslw u (List.mem_of_getElem? hu)
            have hu1 := hwl u hu0
            have hu2 := hwc u hu0
            dsimp only at hR offI N
            have eN := least_take hu
            have hl5 := least_len (sl.take i) []
            have hl6 : (sl.take i).length ≤ sl.length := List.length_take_le' ..
            have hl7 : ∀ x ∈ leastOf (sl.take i), ∀ c ∈ x, c < 128 := fun x hx => by
              rcases least_sub _ _ x hx with h | h
              · cases h
              · exact hwc x (hslw x (List.mem_of_mem_take h))
            have hl8 : ∀ x ∈ leastOf (sl.take i), x.length ≤ 14 := fun x hx => by
              rcases least_sub _ _ x hx with h | h
              · cases h
              · exact hwl x (hslw x (List.mem_of_mem_take h))
            have hl9 : (leastOf (sl.take i)).length < 64 := by
              have : (leastOf (sl.take i)).length ≤ ([] : List (List Nat)).length + (sl.take i).length := hl5
              simp only [List.length_nil] at this
              omega
            clear hl5 hl6
            generalize leastOf (sl.take i) = lst at *
            show wpAny _ _ _ _ _ _
            k_fold
            k_steps
            unfold Stopped
            refine wpAny_If ?_
            k_steps
            unfold Stopped
            refine LCt.ListComp_T (F₀ := by k_asm) (by with_unfolding_all rfl) (by decide) (by rfl) (by decide) (by rfl) ?_
            k_steps
            unfold Stopped
            refine LCt.CompSrcT.ledger (by rfl) (by k_asm) (by k_asm) (by k_mem) ?sz ?_
            case sz => rw [List.size_toArray, strs_len (by assumption), PySem.sizeLine_eq]; omega
            intro gg
            refine wct_rest (fun j ys => StrsAre ys (((lst.take j).filter fun less => inb less u).map S)) (.inr ⟨_, by k_mem, rfl, _, rfl⟩) ?i0 ?turn ?fin
            case i0 => exact .nil
            case turn =>
              intro j v2 I2 oI2 C2 oC2 D2 m2 ys h3 tk3 E3 hj hv2 hI hC hx F3 N3 off ne
              simp only [List.getElem?_toArray] at hv2
              obtain ⟨y, ty, hy, rfl⟩ := strs_at hR hv2
              (try simp only [LCg.Off3, and_true] at off)
              dsimp only
              k_steps
              all_goals
                unfold Stopped
                refine' CEnd.intro ?z1 ?z2 ?z3 ?z4
                case z1 => k_asm
                case z2 => k_asm
                case z3 => exact fun p h => h
                case z4 =>
                  first
                  | exact filt_T (p := fun less => inb less u) hI hy (by assumption)
                  | exact filt_F (p := fun less => inb less u) hI hy (by assumption)
            case fin =>
              intro ys hI
              rw [List.size_toArray, strs_len hR, List.take_length] at hI
              unfold LCg.FinE
              intro D2 h3 tk3 F3 N3 o2
              (try simp only [LCg.Off1, and_true] at o2)
              dsimp only
              k_steps
              have hfl : ∀ x ∈ lst.filter fun less => inb less u, ∀ c ∈ x, c < 128 := fun x hx => hl7 x ((List.mem_filter.mp hx).1)
              unfold Stopped
              refine' eq_texts (ns := lst.filter fun less => inb less u) (ms := []) (ys := []) ?n1 ?n2 ?n3 hI .nil ?n5 ?n6 ?n7 ?_
              case n1 => k_asm
              case n2 => k_mem
              case n3 => k_mem
              case n5 => exact hfl
              case n6 => exact fun y hy => absurd hy List.not_mem_nil
              case n7 => first | ktr_units | ke_room
              k_steps
              · have e1 : lst.filter (fun less => inb less u) = [] := of_decide_eq_true (by assumption)
                have e2 : addLeast lst u = lst ++ [u] := by unfold addLeast; rw [if_pos e1]
--                dsimp only
                k_steps
                rename News _ _ _ _ => N8
                refine' app_S (D := LS) (ws := lv) (n := lc) (news' := (I, oI) :: (L' + 1, o') :: (LS, listOf (lv ++ [Value.str (S u) tu]).toArray (lc + 1)) :: (D, listOf vs'.toArray c) :: (104, tabObj #[rawInt lamPos.line, rawInt lamPos.col, .ref c']) :: (c', oc') :: news) ?z1 (fun p hp => N8 p (.tail _ (.tail _ hp))) ?z3 ?z4 ?_
                case z1 => k_asm
                case z3 =>
                  refine .tail (Ne.symm (offI (LS, _) (.head _))) (.tail (Nat.ne_of_lt l9.2.1) (.head fun p hp => ?_))
                  rcases List.mem_cons.mp hp with rfl | hp
                  · exact Nat.ne_of_gt hLD
                  rcases List.mem_cons.mp hp with rfl | hp
                  · exact Nat.ne_of_lt l9.2.2.1
                  exact hcL p hp
                case z4 => have := strs_len hR; omega
                intro h8 F8 N8
                k_steps
                refine' TurnC.next (lv ++ [Value.str (S u) tu], lc + 1) ?z1 ?z2 ?z3 ?z4
                case z1 => k_asm
                case z2 => exact N8
                case z3 =>
                  intro p hp
                  rcases List.mem_cons.mp hp with rfl | hp
                  · exact offI (LS, listOf lv.toArray lc) (.head _)
                  · exact offI p (.tail _ hp)
                case z4 => rw [eN, e2]; exact strs_append hR (strs_one u tu)
              · have e1 : ¬ lst.filter (fun less => inb less u) = [] := of_decide_eq_false (by assumption)
                have e2 : addLeast lst u = lst := by unfold addLeast; rw [if_neg e1]
--                dsimp only
                k_steps
                refine' TurnC.next (lv, lc) ?z1 ?z2 offI ?z4
                case z1 => k_asm
                case z2 =>
                  rename News _ _ _ _ => N9
                  exact fun p hp => N9 p (.tail _ (.tail _ hp))
                case z4 => rw [eN, e2]; exact hR
          case g4 =>
            rintro ⟨lv, lc⟩ h tk oc2 hR F N
            dsimp only at N hR
            k_steps
            dsimp only
            k_steps
            refine' leaveK_ ?d1 ?d2 ?_
            case d1 => k_asm
            case d2 => k_asm
            intro kF kN
            rw [strs_len hS2, List.take_length] at hR
            rw [hws] at hp2
            refine ret sl _ lv lc _ [(c', oc')] _ _ hp2 hpw (.inr ⟨c', oc', vsx, tx, rfl, rfl, hd1, hd2⟩) kF (fun p hp => kN p ?_) hR
            simp only [List.mem_cons, List.cons_append, List.nil_append] at hp ⊢
            rcases hp with hp | hp | hp | hp <;> simp [hp]
end Mine

end
/-! Zips -/
section
open PySem PySem.W PyProof.Rows
set_option maxRecDepth 100000
set_option maxHeartbeats 1000000
namespace Mine
/-! ## for x, y in zip(list, list), the ledger as it was -/
theorem allObj_of : ∀ {ws : List (Addr × String)} {k : List (Addr × Obj) → Prop}, (∀ its, Objs ws its → k its) → AllObj ws k
  | [], _, h => h [] trivial
  | w :: _, _, h => fun o ho => allObj_of fun its hi => h ((w.1, o) :: its) ⟨⟨rfl, ho⟩, hi⟩
def TurnZ (h₀ : Heap) (L : Addr) (its news : List (Addr × Obj)) (x y : PySem.Str) (m₀ : PySem.Str → Option Value) (P : Prop) (Q : Flow → Shared → Prop) (s₁ : Shared) (f : Flow) (s₂ : Shared) : Prop :=
  match f with
  | .ret v => Q (.ret v) s₂
  | .brk => Q .next s₂
  | _ => ∃ (h' : Heap) (tk : Nat) (m' : PySem.Str → Option Value), s₂ = { s₁ with heap := h', toks := tk } ∧ Fr h₀ L h' m' ∧ News h₀ L h' (its ++ news) ∧ (∀ z, z ≠ x → z ≠ y → m' z = m₀ z) ∧ P
theorem TurnZ.next {h₀ : Heap} {L : Addr} {its news led : List (Addr × Obj)} {x y : PySem.Str} {m₀ m' : PySem.Str → Option Value} {P : Prop} {Q : Flow → Shared → Prop} {s₁ : Shared} {h' : Heap} {tk : Nat}
    (F : Fr h₀ L h' m') (N : News h₀ L h' led) (hs : ∀ p ∈ its ++ news, p ∈ led) (hm : ∀ z, z ≠ x → z ≠ y → m' z = m₀ z) (hP : P) : TurnZ h₀ L its news x y m₀ P Q s₁ .next { s₁ with heap := h', toks := tk } :=
  ⟨h', tk, m', rfl, F, fun p hp => N p (hs p hp), hm, hP⟩
section
variable {prog : Program} {w : World} {A : Around} {E : Value → Shared → Prop} {s : Shared} {env : Env} {h₀ : Heap} {body : List Stmt} {Q : Flow → Shared → Prop}
theorem wl_zip {elts : List Expr} {k : Nat} {pos : Pos} {l1 l2 : Addr} {xs ys : List Value} {n1 n2 : Nat} {m₀ : PySem.Str → Option Value} {news : List (Addr × Obj)} (x y : PySem.Str) (R : Nat → Prop)
    (hh : A.handled = none) (F : Fr h₀ env.locals s.heap m₀) (N : News h₀ env.locals s.heap news) (hm1 : (l1, listOf xs.toArray n1) ∈ news) (hm2 : (l2, listOf ys.toArray n2) ∈ news) (h0 : R 0)
    (turn : ∀ (i : Nat) (v1 v2 : Value) (T : Addr) (u : PySem.Str → Option Value) (h : Heap) (tk : Nat) (its : List (Addr × Obj)), xs[i]? = some v1 → ys[i]? = some v2 → R i → (∀ p ∈ news, ∀ q ∈ its, p.1 ≠ q.1) → IsTup h T #[v1, v2] →
      Fr h₀ env.locals h (fun z => if z = y then u z else if z = x then u z else m₀ z) → News h₀ env.locals h (its ++ news) →
      wpAny (model prog w) A (assign (.Tuple elts k pos) env (.ref T)) (fun _ s₂ => wpAny (model prog w) A (execs body env) (TurnZ h₀ env.locals its news x y m₀ (R (i + 1)) Q { s with heap := h, toks := tk }) E s₂) E { s with heap := h, toks := tk })
    (done : ∀ (u : PySem.Str → Option Value) (h : Heap) (tk : Nat), R (min xs.length ys.length) → Fr h₀ env.locals h (fun z => if z = y then u z else if z = x then u z else m₀ z) → News h₀ env.locals h news → Q .next { s with heap := h, toks := tk }) :
    wpAny (model prog w) A (call (.type "zip") [.ref l1, .ref l2]) (fun xv s₁ => wpAny (model prog w) A (pyIter xv) (fun it s₂ => TurnsAt prog w A h₀ env (.Tuple elts k pos) body Q E it s₂) E s₁) E s := by
  have fr : ∀ {h : Heap} {m₁ : PySem.Str → Option Value}, Fr h₀ env.locals h m₁ → (∀ z, z ≠ x → z ≠ y → m₁ z = m₀ z) → Fr h₀ env.locals h (fun z => if z = y then m₁ z else if z = x then m₁ z else m₀ z) := by
    intro h m₁ F₁ hm
    have e : (fun z => if z = y then m₁ z else if z = x then m₁ z else m₀ z) = m₁ := by
      funext z
      by_cases h1 : z = y
      · rw [if_pos h1]
      · by_cases h2 : z = x
        · rw [if_neg h1, if_pos h2]
        · rw [if_neg h1, if_neg h2, hm z h2 h1]
    rw [e]; exact F₁
  refine ktu_zip hh F N hm1 rfl rfl hm2 rfl rfl fun I hI => ?_
  have key : ∀ (j i : Nat) (m₁ : PySem.Str → Option Value), i + j = min xs.length ys.length → R i → (∀ z, z ≠ x → z ≠ y → m₁ z = m₀ z) →
      ItemsRest prog w A E h₀ env (.Tuple elts k pos) body Q s [(I + 4, "zip"), (I + 2, "tuple"), (I + 3, "tuple"), (I, "list_iterator"), (I + 1, "list_iterator")] [(l1, listOf xs.toArray n1), (l2, listOf ys.toArray n2)] (zipItems (xs.drop i) (ys.drop i)) m₁ news := by
    intro j
    induction j with
    | zero =>
      intro i m₁ hi hR hm
      have e : zipItems (xs.drop i) (ys.drop i) = [] := by
        refine List.eq_nil_of_length_eq_zero ?_
        rw [zipItems_length, List.length_drop, List.length_drop]; omega
      rw [e]
      refine ItemsRest.zero fun h tk F₁ N₁ => done m₁ h tk (by rw [← hi]; exact hR) (fr F₁ hm) N₁
    | succ j ih =>
      intro i m₁ hi hR hm
      have h1 : i < xs.length := by omega
      have h2 : i < ys.length := by omega
      rw [List.drop_eq_getElem_cons h1, List.drop_eq_getElem_cons h2]
      refine ItemsRest.pair fun T t h tk hT F₁ => allObj_of fun its ho N₁ => ?_
      have hits : ∀ p ∈ news, ∀ q ∈ its, p.1 ≠ q.1 := fun p hp q hq e => by
        have h3 : q.1 ∈ its.map (·.1) := List.mem_map.mpr ⟨q, hq, rfl⟩
        rw [ho.map] at h3
        have h4 := hI p hp
        have h5 : ∃ c : Nat, q.1 = I + c := by
          simp only [List.map_cons, List.map_nil, List.mem_cons, List.not_mem_nil, or_false] at h3
          rcases h3 with h3 | h3 | h3 | h3 | h3
          · exact ⟨4, h3⟩
          · exact ⟨2, h3⟩
          · exact ⟨3, h3⟩
          · exact ⟨0, h3⟩
          · exact ⟨1, h3⟩
        obtain ⟨c, h5⟩ := h5
        rw [e, h5] at h4
        exact Nat.not_lt.mpr (Nat.le_add_right I c) h4
      refine wpAny_mono (turn i xs[i] ys[i] T m₁ h tk its (List.getElem?_eq_getElem h1) (List.getElem?_eq_getElem h2) hR hits hT (fr F₁ hm) N₁) (fun _ s₂ q => wpAny_mono q (fun f s₃ q => ?_) fun _ _ e => e) fun _ _ e => e
      have fin : (∃ (h' : Heap) (tk' : Nat) (m' : PySem.Str → Option Value), s₃ = { s with heap := h', toks := tk' } ∧ Fr h₀ env.locals h' m' ∧ News h₀ env.locals h' (its ++ news) ∧ (∀ z, z ≠ x → z ≠ y → m' z = m₀ z) ∧ R (i + 1)) →
          UnrEndW h₀ env.locals { s with heap := h, toks := tk } its (fun m' n' => SubL [(l1, listOf xs.toArray n1), (l2, listOf ys.toArray n2)] n' ∧ ItemsRest prog w A E h₀ env (.Tuple elts k pos) body Q s [(I + 4, "zip"), (I + 2, "tuple"), (I + 3, "tuple"), (I, "list_iterator"), (I + 1, "list_iterator")] [(l1, listOf xs.toArray n1), (l2, listOf ys.toArray n2)] (zipItems (xs.drop (i + 1)) (ys.drop (i + 1))) m' n') s₃ := by
        rintro ⟨h', tk', m', rfl, F', N', hm', hR'⟩
        exact ⟨h', tk', m', news, rfl, F', N', hits, And.intro hm1 (And.intro hm2 trivial), ih (i + 1) m' (by omega) hR' hm'⟩
      cases f with
      | ret v => exact q
      | brk => exact q
      | next => exact fin q
      | cont => exact fin q
  have k0 := key (min xs.length ys.length) 0 m₀ (by omega) h0 fun _ _ _ => rfl
  rw [List.drop_zero, List.drop_zero] at k0
  exact k0
end
/-! ## a list's head part; bools compared -/
section
variable {prog : Program} {w : World} {A : Around} {E : Value → Shared → Prop} {s : Shared} {h₀ : Heap} {L : Addr} {m : PySem.Str → Option Value} {news : List (Addr × Obj)} {Q : Value → Shared → Prop}
theorem strs_take : ∀ {vs : List Value} {ys : List (List Nat)} (n : Nat), StrsAre vs (ys.map S) → StrsAre (vs.take n) ((ys.take n).map S)
  | _, _, 0, _ => .nil
  | _, [], n + 1, .nil => .nil
  | _, y :: ys, n + 1, .cons _ t h => .cons (S y) t (strs_take n h)
theorem sl_listTo {value slice : Expr} {l : Addr} {vs : List Value} {c n : Nat} {j : Int} {u : Tok} (F : Fr h₀ L s.heap m) (N : News h₀ L s.heap news) (hm : (l, listOf vs.toArray c) ∈ news) (hj : j = (n : Int)) (hl : vs.length ≤ 1000000)
    (h : ∀ D h', Fr h₀ L h' m → News h₀ L h' ((D, listOf (vs.take n).toArray 0) :: news) → (∀ p ∈ news, p.1 < D) → Q (.ref D) { s with heap := h' })
    (hs : subscripted slice false (.ref l) (.ref s.heap.objs.size) = operate [.ref s.heap.objs.size, .ref l] (getItem (.ref l) (.ref s.heap.objs.size)))
    (ht : ∀ r, letTemporaryGo value (.ref l) r = pure ()) :
    wpAny (model prog w) A (subscriptTail value slice (.ref l) (.ref s.heap.objs.size)) Q E { s with heap := s.heap.push { cls := .type "slice", data := .fields #[.none, .int j u, .none] } } := by
  subst hj
  refine slice_list (items := vs.toArray) F N ⟨_, (N _ hm).1, rfl, c, rfl⟩ .none (.int _ u) (fun h' F' N' => ?_) hs ht (by rw [List.size_toArray, PySem.sizeLine_eq]; omega)
  rw [slicePick_upto'] at N'
  exact h _ h' F' N' fun p hp => Nat.lt_succ_of_lt (Heap.lt_size (N p hp).1)
end
end Mine

end
/-! F8 -/
section
open PySem PySem.W PyProof.Rows
set_option maxRecDepth 100000
set_option maxHeartbeats 8000000
namespace Mine

local macro_rules | `(tactic| walk_at "asS") => `(tactic| first | with_reducible exact lit_l | with_reducible exact lit_r | with_reducible exact lit_rl | with_reducible exact lit_d | with_reducible exact lit_d2 | with_reducible exact lit_e | with_reducible exact lit_sl | with_reducible exact lit_z | with_reducible exact lit_st | with_reducible exact rfl)
local macro_rules | `(tactic| walk_at "lens") => `(tactic| first | omega | ((simp only [List.length_append, List.length_cons, List.length_nil, List.length_drop, List.length_take, List.length_map, List.length_replicate]); omega) | ((simp only [List.length_append, List.length_cons, List.length_nil, List.length_drop, List.length_take, List.length_map, List.length_replicate] at *); omega))
local macro_rules | `(tactic| walk_at "pyIter ref") => `(tactic| (k_here; refine Stopped.here ?_))


local macro_rules | `(tactic| walk_at "binaryOp Add str str") => `(tactic| (k_here; (with_reducible show wpAny _ _ (binaryOp Operator.Add (Value.str _ _) (Value.str _ _)) _ _ _); k_dflt (refine' add_S ?k1 ?k2 ?k3 ?_; (case k1 => walk_at "asS"); (case k2 => walk_at "asS"); (case k3 => walk_at "lens"); (intro t' k' ln'))))
local macro_rules | `(tactic| walk_at "exec If") => `(tactic| (k_here; refine Stopped.here ?_))
local macro_rules | `(tactic| walk_at "subscriptTail Name Slice str ref") => `(tactic| (k_here; (with_reducible show wpAny _ _ (subscriptTail _ (Expr.Slice _ _ _ _) (Value.str _ _) (Value.ref _)) _ _ _); (first
  | ((with_reducible show wpAny _ _ (subscriptTail _ (Expr.Slice (some _) none none _) _ _) _ _ _); k_dflt (refine' sl_last (s := ⟨_, _, _, _, _⟩) ?k1 ?k2 ?k3 ?k4 ?k5 ?_ ?k6 ?k7; (case k1 => k_asm); (case k2 => k_asm); (case k3 => walk_at "asS"); (case k4 => exact rfl); (case k5 => walk_at "lens"); (case k6 => with_unfolding_all rfl); (case k7 => intro _; with_unfolding_all rfl)))
  | ((with_reducible show wpAny _ _ (subscriptTail _ (Expr.Slice none (some _) none _) _ _) _ _ _); k_dflt (refine' sl_but (s := ⟨_, _, _, _, _⟩) ?k1 ?k2 ?k3 ?k4 ?k5 ?_ ?k6 ?k7; (case k1 => k_asm); (case k2 => k_asm); (case k3 => walk_at "asS"); (case k4 => exact rfl); (case k5 => walk_at "lens"); (case k6 => with_unfolding_all rfl); (case k7 => intro _; with_unfolding_all rfl)))
  | ((with_reducible show wpAny _ _ (subscriptTail _ (Expr.Slice none (some _) none _) _ _) _ _ _); k_dflt (refine' sl_to (s := ⟨_, _, _, _, _⟩) ?k1 ?k2 ?k3 ?k4 ?k5 ?_ ?k6 ?k7; (case k1 => k_asm); (case k2 => k_asm); (case k3 => walk_at "asS"); (case k4 => exact rfl); (case k5 => walk_at "lens"); (case k6 => with_unfolding_all rfl); (case k7 => intro _; with_unfolding_all rfl)))
  | ((with_reducible show wpAny _ _ (subscriptTail _ (Expr.Slice (some _) none none _) _ _) _ _ _); k_dflt (refine' sl_from (s := ⟨_, _, _, _, _⟩) ?k1 ?k2 ?k3 ?k4 ?k5 ?_ ?k6 ?k7; (case k1 => k_asm); (case k2 => k_asm); (case k3 => walk_at "asS"); (case k4 => exact rfl); (case k5 => walk_at "lens"); (case k6 => with_unfolding_all rfl); (case k7 => intro _; with_unfolding_all rfl)))); intro _ _ _ _ _))
local macro_rules | `(tactic| walk_at "compareOp Eq str str") => `(tactic| (k_here; (with_reducible show wpAny _ _ (compareOp _ (Value.str _ _) (Value.str _ _)) _ _ _); (refine' eq_S ?k1 ?k2 ?_; (case k1 => walk_at "asS"); (case k2 => walk_at "asS"))))


local macro_rules | `(tactic| walk_at "upd") => `(tactic| first | (refine' Upd.head ?a; (case a => exact fun p hp => Nat.ne_of_lt (lt_of_all _ (by assumption) p hp))) | (refine' Upd.tail ?a ?b; (case a => first | (refine Ne.symm ?_; assumption) | k_ne); (case b => walk_at "upd")))
local macro_rules | `(tactic| walk_at "call ref") => `(tactic| (k_here; refine Stopped.here ?_))
local macro_rules | `(tactic| walk_at "call builtin:str.upper") => `(tactic| (k_here; k_dflt (refine' upper_S ?k1 ?k2 ?k3 ?_; (case k1 => walk_at "asS"); (case k2 => assumption); (case k3 => walk_at "lens"); (intro t' k'))))
local macro_rules | `(tactic| walk_at "exec For Tuple Call cons nil") => `(tactic| (k_here; refine Stopped.here ?_))
local macro_rules | `(tactic| walk_at "exec For Name Subscript cons nil") => `(tactic| (k_here; (rename Fr _ _ _ _ => lF'); (with_unfolding_all refine' For_invVF lF' ?k1 ?k2 ?_; (case k1 => exact rfl); (case k2 => exact rfl); k_whole)))
local macro_rules | `(tactic| walk_at "exec For Name Tuple cons nil") => `(tactic| (k_here; (rename Fr _ _ _ _ => lF'); (with_unfolding_all refine' For_invVF lF' ?k1 ?k2 ?_; (case k1 => exact rfl); (case k2 => exact rfl); k_whole)))
local macro_rules | `(tactic| walk_at "exec Assign cons IfExp") => `(tactic| (k_here; refine Stopped.here ?_))
local macro_rules | `(tactic| walk_at "call type:zip") => `(tactic| (k_here; refine Stopped.here ?_))
local macro_rules | `(tactic| walk_at "subscriptTail Name Slice ref ref") => `(tactic| (k_here; refine Stopped.here ?_))
theorem ne_same {prog : Program} {w : World} {A : Around} {E : Value → Shared → Prop} {s : Shared} {b : Bool} {Q : Value → Shared → Prop} (h : Q (.bool false) s) : wpAny (model prog w) A (compareOp .NotEq (.bool b) (.bool b)) Q E s :=
  ne_bool (by rw [bne_self_eq_false]; exact h)
local macro_rules | `(tactic| walk_at "compareOp NotEq bool bool") => `(tactic| (k_here; refine Stopped.here ?_))
theorem tab_ne {h₀ h : Heap} {L : Addr} {led ex : List (Addr × Obj)} {pos : Pos} {qual : PySem.Str} {ps : Array Value} (hT : TabIs pos qual ps ex) (N : News h₀ L h led) (h1 : ((104 : Nat), tabObj ps) ∈ led) (h2 : ∀ q ∈ ex, q ∈ led) : ∀ q ∈ ex, q.1 ≠ 104 := by
  rcases hT with ⟨_, rfl⟩ | ⟨c', oc, vs, t, rfl, rfl, hd, hv⟩
  · exact fun q hq => absurd hq List.not_mem_nil
  · intro q hq e
    have h3 := (N q (h2 q hq)).1
    rw [List.mem_singleton.mp hq] at h3 e
    have e' : c' = 104 := e
    rw [e', (N _ h1).1] at h3
    cases h3
    cases hd
    simp [rawInt] at hv
abbrev RetWit (news : List (Addr × Obj)) (h₀ : Heap) (L : Addr) (m : PySem.Str → Option Value) (s : Shared) (Q : Value → Shared → Prop) : Prop :=
  ∀ (ps' : Array Value) (ex' : List (Addr × Obj)) (h' : Heap) (tk' : Nat), TabIs lamPos lamQual ps' ex' → (∀ q ∈ ex', q.1 ≠ 104) → Fr h₀ L h' m → News h₀ L h' ((104, tabObj ps') :: (ex' ++ news)) → Q (.bool true) { s with heap := h', toks := tk' }
theorem wit_con (w : World) {p : Program} {loose : List PySem.Str} {mean : ExcName → Option Value} {mg mb : PySem.Str → Option Value} (news : List (Addr × Obj)) (wd : List Nat) (t t2 : Tok) (n : Nat) (Dm Dt : Addr) (vm vt : List Value) (cm ct : Nat) (ms : List (List Nat))
    (h3 : 3 ≤ wd.length) (h6 : wd.length ≤ 6) (aw : ∀ c ∈ wd, Al c) (hz : ∀ c ∈ wd, c ≠ 122) (h1n : 1 ≤ n) (hn : n ≤ 3) (hDm : (Dm, listOf vm.toArray cm) ∈ news) (hDt : (Dt, listOf vt.toArray ct) ∈ news)
    (hSm : StrsAre vm (ms.map S)) (hSt : StrsAre vt ((ms.map (sent n)).map S)) (hms : ∀ x ∈ ms, x.length ≤ 1000 ∧ ∀ c ∈ x, Al c) (hcn : ms.length ≤ 1000) (ps : Array Value) (ex : List (Addr × Obj)) (hT : TabIs lamPos lamQual ps ex) (hP : ∀ q ∈ ex ++ news, q.1 ≠ 104) :
    Con 133 8 300 w p loose mean mg mb ((104, tabObj ps) :: (ex ++ news)) [.str (S wd) t, .ref Dm, .ref Dt, .int n t2] (RetWit news) := by
  have hA : ∀ c ∈ wd, c < 128 := fun c hc => Al_lt (aw c hc)
  unfold Con
  k_fill
  refine' con_of [(PySem.Str.ofString "word", .str (S wd) t), (PySem.Str.ofString "mails", .ref Dm), (PySem.Str.ofString "texts", .ref Dt), (PySem.Str.ofString "times", .int n t2)] ?ho ?hcd ?hb ?hl (by decide) ?h ?c1 ?c2 ?c3 ?c4
  case ho => exact rfl
  case hcd => exact rfl
  case hb => exact fun s => BindsTo.of_eq rfl
  case hl => exact locs rfl
  case c1 => exact rfl
  case c2 => exact rfl
  case c3 => exact rfl
  case c4 => decide
  case h =>
    intro dp un gd cn cs a ccd cl outer base h₀ L m s Q E hd hu hk ret g' L' h' tk FG' F' N' B' X' T'
    show wpAny _ _ _ _ _ _
    k_fold
    k_steps
    unfold Stopped
    refine' Con.use (least_con w news wd t t2 n h3 h6 hA h1n hn ps ex hT hP) ?k1 ?k2 ?k3 ?k4 ?k5 ?k6 ?k7 ?k8 ?_
    case k1 => k_asm
    case k2 => k_asm
    case k3 => k_asm
    case k4 => k_asm
    case k5 => k_asm
    case k6 => rfl
    case k7 => ktr_room
    case k8 => ktr_units
    intro sl D vs c ps1 ex1 h1 tk1 hp1 hpw1 hT1 F1 N1 hS1
    have hx1 : ∀ q ∈ ex1, q.1 ≠ 104 := tab_ne hT1 N1 (.tail _ (.head _)) fun q hq => .tail _ (.tail _ (List.mem_append_left _ hq))
    have hlen1 : vs.length ≤ 64 := by
      have e1 := strs_len hS1
      have e2 : (leastOf sl).length ≤ ([] : List (List Nat)).length + sl.length := least_len sl []
      have e3 := hp1.length_eq
      have e4 := words_lt h3 h6 h1n hn
      simp only [List.length_nil] at e2
      omega
    show wpAny _ _ _ _ _ _
    k_steps
    unfold Stopped
    rename_i t8 k8 l8 h8 F8 N8 l18
    rw [lit_st] at N8
    refine' Con.use (record_con w _ l8 [.str (S (wd.map up)) t8, .str (S [42]) k8] 0 [wd.map up, [42]] ?hm9 ?hs ?z) ?k1 ?k2 ?k3 ?k4 ?k5 ?k6 ?k7 ?k8 ?_
    case k4 => k_asm
    case k2 => k_asm
    case hm9 => k_mem
    case hs => exact .cons _ _ (.cons _ _ .nil)
    case z => exact (by decide : 2 ≤ 1000)
    case k1 => k_asm
    case k3 => k_asm
    case k5 => k_asm
    case k6 => rfl
    case k7 => ktr_room
    case k8 => ktr_units
    intro x2 d2 U2 R2 ta tb tc td c2 h2 tk2 F2 N2
    clear N8 F8
    k_steps
    unfold Stopped
    refine' Con.use (record_con w _ D vs c (leastOf sl) ?hm9 ?hs ?z) ?k1 ?k2 ?k3 ?k4 ?k5 ?k6 ?k7 ?k8 ?_
    case k4 => k_asm
    case k2 => k_asm
    case hm9 => k_mem
    case hs => exact hS1
    case z => omega
    case k1 => k_asm
    case k3 => k_asm
    case k5 => k_asm
    case k6 => rfl
    case k7 => ktr_room
    case k8 => ktr_units
    intro x3 d3 U3 R3 tae tbe tce tde c3 h4 tk3 F3 N3
    have hsB : StrsAre [Value.str (S (wd.map up)) t8, Value.str (S [42]) k8] (([wd.map up, [42]] : List (List Nat)).map S) := .cons _ _ (.cons _ _ .nil)
    obtain ⟨led, hled⟩ : ∃ led, led = (R3, listOf #[] 0) :: (U3, listOf vs.toArray c3) :: (x3, instObj 76 d3) :: (d3, entryD w tae tbe tce tde U3 R3) :: (R2, listOf #[] 0) :: (U2, listOf #[Value.str (S (List.map up wd)) t8, Value.str (S [42]) k8] c2) :: (x2, instObj 76 d2) ::
          (d2, entryD w ta tb tc td U2 R2) :: (l8, listOf #[Value.str (S (List.map up wd)) t8, Value.str (S [42]) k8] 0) :: (D, listOf vs.toArray c) :: (104, tabObj ps1) :: (ex1 ++ news) := ⟨_, rfl⟩
    have rB : RecIn w led x2 [Value.str (S (wd.map up)) t8, Value.str (S [42]) k8] := by rw [hled]; exact ⟨d2, U2, R2, ta, tb, tc, td, c2, by k_mem, by k_mem, by k_mem⟩
    have rA : RecIn w led x3 vs := by rw [hled]; exact ⟨d3, U3, R3, tae, tbe, tce, tde, c3, by k_mem, by k_mem, by k_mem⟩
    have mx2 : (x2, instObj 76 d2) ∈ led := by rw [hled]; k_mem
    have md2 : (d2, entryD w ta tb tc td U2 R2) ∈ led := by rw [hled]; k_mem
    have mx3 : (x3, instObj 76 d3) ∈ led := by rw [hled]; k_mem
    have md3 : (d3, entryD w tae tbe tce tde U3 R3) ∈ led := by rw [hled]; k_mem
    have mD : (D, listOf vs.toArray c) ∈ led := by rw [hled]; k_mem
    have mnews : ∀ q ∈ (104, tabObj ps1) :: (ex1 ++ news), q ∈ led := fun q hq => by rw [hled]; exact .tail _ (.tail _ (.tail _ (.tail _ (.tail _ (.tail _ (.tail _ (.tail _ (.tail _ (.tail _ hq)))))))))
    have mm : (Dm, listOf vm.toArray cm) ∈ led := mnews _ (.tail _ (List.mem_append_right _ hDm))
    have mt : (Dt, listOf vt.toArray ct) ∈ led := mnews _ (.tail _ (List.mem_append_right _ hDt))
    rw [← hled] at N3
    clear hled
    have lift : ∀ {h : Heap} {its : List (Addr × Obj)}, News g' L' h (its ++ led) → News g' L' h ((x2, instObj 76 d2) :: (d2, entryD w ta tb tc td U2 R2) :: (x3, instObj 76 d3) :: (d3, entryD w tae tbe tce tde U3 R3) :: (its ++ led)) := fun {h its} N q hq => by
      rcases List.mem_cons.mp hq with rfl | hq
      · exact N _ (List.mem_append_right _ mx2)
      rcases List.mem_cons.mp hq with rfl | hq
      · exact N _ (List.mem_append_right _ md2)
      rcases List.mem_cons.mp hq with rfl | hq
      · exact N _ (List.mem_append_right _ mx3)
      rcases List.mem_cons.mp hq with rfl | hq
      · exact N _ (List.mem_append_right _ md3)
      exact N q hq
    have N4 := lift (its := []) N3
    rw [List.nil_append] at N4
    clear N3
    have hn1 : n - 1 + 1 = n := Nat.sub_add_cancel h1n
    have hw : Good wd := ⟨by omega, by rintro rfl; simp at h3⟩
    have hpw : sl.Perm (words (n - 1 + 1) [wd]) := by rw [hn1]; exact hp1
    have hal := least_al hw aw hpw hpw1
    have hno : (leastOf sl).contains [42] = false := by
      have := least_star hw aw hpw hpw1
      simpa using this
    have hlw : ∀ x ∈ leastOf sl, x.length ≤ 14 := fun x hx => by
      rcases least_sub _ _ x hx with h | h
      · cases h
      · have := words_len n [wd] 6 (by intro y hy; rw [List.mem_singleton.mp hy]; exact h6) x (hp1.mem_iff.mp h)
        omega
    have hAA : ∀ y ∈ leastOf sl, y.length ≤ 1000 ∧ ∀ c ∈ y, c < 128 := fun y hy => ⟨by have := hlw y hy; omega, fun c hc => Al_lt ((hal y hy).2 c hc)⟩
    have hAB : ∀ y ∈ ([wd.map up, [42]] : List (List Nat)), y.length ≤ 1000 ∧ ∀ c ∈ y, c < 128 := by
      intro y hy
      simp only [List.mem_cons, List.not_mem_nil, or_false] at hy
      rcases hy with rfl | rfl
      · refine ⟨by rw [List.length_map]; omega, fun c hc => ?_⟩
        obtain ⟨d, hd, rfl⟩ := List.mem_map.mp hc
        have := hA d hd
        unfold up; split <;> omega
      · exact ⟨by decide, by decide⟩
    show wpAny _ _ _ _ _ _
    k_steps
    unfold Stopped
    refine wpAny_If ?_
    k_steps
    unfold Stopped
    refine' Con.use (none_use w ?rb hsB (show 2 ≤ 1000 by decide)) ?k1 ?k2 ?k3 ?k4 ?k5 ?k6 ?k7 ?k8 ?_
    case k4 => k_asm
    case rb => exact rB.mono w fun q hq => .tail _ (.tail _ (.tail _ (.tail _ hq)))
    case k1 => k_asm
    case k2 => k_asm
    case k3 => k_asm
    case k5 => k_asm
    case k6 => rfl
    case k7 => ktr_room
    case k8 => ktr_units
    intro h5 tk5 F5 N5
    have hyes : ([wd.map up, [42]] : List (List Nat)).contains [42] = true := by simp
    rw [hyes]
    show wpAny _ _ _ _ _ _
    k_steps
    unfold Stopped
    refine' Con.use (none_use w ?rb hS1 (by omega)) ?k1 ?k2 ?k3 ?k4 ?k5 ?k6 ?k7 ?k8 ?_
    case k4 => k_asm
    case rb => exact rA.mono w fun q hq => .tail _ (.tail _ (.tail _ (.tail _ hq)))
    case k1 => k_asm
    case k2 => k_asm
    case k3 => k_asm
    case k5 => k_asm
    case k6 => rfl
    case k7 => ktr_room
    case k8 => ktr_units
    intro h6 tk6 F6 N6
    rw [hno]
    show wpAny _ _ _ _ _ _
    k_steps
    unfold Stopped
    try clear N4
    try clear N5
    refine For_turns (by k_asm) ?_
    k_steps
    unfold Stopped
    refine wl_zip (xs := vm) (ys := vt) (n1 := cm) (n2 := ct) (news := led) (PySem.Str.ofString "mail") (PySem.Str.ofString "text") (fun _ => True) (by rfl) (by k_asm) (fun q hq => N6 q (.tail _ (.tail _ (.tail _ (.tail _ hq))))) mm mt trivial ?turn ?done
    case turn =>
      intro i v1 v2 T u h7 tk7 its hv1 hv2 _ hoff hT7 F7 N7
      obtain ⟨m1, t1, hm1, rfl⟩ := strs_at hSm hv1
      obtain ⟨m2, t3, hm2, rfl⟩ := strs_at hSt hv2
      rw [List.getElem?_map, hm1] at hm2
      cases hm2
      obtain ⟨hml, hmA⟩ := hms m1 (List.mem_of_getElem? hm1)
      have hsl : (sent n m1).length ≤ 8002 := by have := Qn_le (n := n) (l := m1) (by omega) hml; show (Qn n m1).length + 1 + 1 ≤ 8002; omega
      have N8 := lift N7
      try clear N7
      show wpAny _ _ _ _ _ _
      k_steps
      unfold Stopped
      refine wpAny_If ?_
      k_steps
      unfold Stopped
      have hiff : appl [wd.map up, [42]] (sent n m1 ++ [47] ++ wd ++ [47]) = appl (leastOf sl) ([10] ++ m1) := by
        have e := law_iff hw aw hpw hpw1 m1 (wd ++ [47]) hmA
        rw [hn1] at e
        have e2 : sent n m1 ++ [47] ++ wd ++ [47] = sent n m1 ++ 47 :: (wd ++ [47]) := by simp
        rw [e2, e]; rfl
      have hc1 : ∀ c ∈ sent n m1 ++ [47] ++ wd ++ [47], c < 128 := by
        intro c hc
        simp only [List.mem_append, List.mem_singleton] at hc
        rcases hc with ((hc | rfl) | hc) | rfl
        · exact Al_lt (sent_mem Al (by simp [Al]) (by simp [Al]) (by simp [Al]) n m1 hmA c hc)
        · decide
        · exact hA c hc
        · decide
      have hc2 : ∀ c ∈ [10] ++ m1, c < 128 := by
        intro c hc
        rcases List.mem_append.mp hc with hc | hc
        · rw [List.mem_singleton.mp hc]; decide
        · exact Al_lt (hmA c hc)
      refine' Con.use (appl_use w ?rb hsB (show 2 ≤ 1000 by decide) hAB _ _ ?z1 hc1) ?k1 ?k2 ?k3 ?k4 ?k5 ?k6 ?k7 ?k8 ?_
      case k4 => k_asm
      case rb => exact rB.mono w fun q hq => .tail _ (.tail _ (.tail _ (.tail _ (List.mem_append_right _ hq))))
      case z1 => simp only [List.length_append, List.length_cons, List.length_nil]; omega
      case k1 => k_asm
      case k2 => k_asm
      case k3 => k_asm
      case k5 => k_asm
      case k6 => rfl
      case k7 => ktr_room
      case k8 => ktr_units
      intro h9 tk9 F9 N9
      rw [hiff]
      try clear N8
      show wpAny _ _ _ _ _ _
      k_steps
      unfold Stopped
      refine' Con.use (appl_use w ?rb hS1 (by omega) hAA _ _ ?z1 hc2) ?k1 ?k2 ?k3 ?k4 ?k5 ?k6 ?k7 ?k8 ?_
      case k4 => k_asm
      case rb => exact rA.mono w fun q hq => .tail _ (.tail _ (.tail _ (.tail _ (List.mem_append_right _ hq))))
      case z1 => simp only [List.length_append, List.length_cons, List.length_nil]; omega
      case k1 => k_asm
      case k2 => k_asm
      case k3 => k_asm
      case k5 => k_asm
      case k6 => rfl
      case k7 => ktr_room
      case k8 => ktr_units
      intro h10 tk10 F10 N10
      try clear N9
      show wpAny _ _ _ _ _ _
      k_steps
      unfold Stopped
      refine ne_same ?_
      k_steps
      refine' TurnZ.next ?z1 ?z2 ?z3 ?z4 trivial
      case z1 => k_asm
      case z2 => k_asm
      case z3 => exact fun p hp => .tail _ (.tail _ (.tail _ (.tail _ hp)))
      case z4 =>
        intro z h1 h2
        simp only [if_neg h1, if_neg h2]
    case done =>
      intro u h7 tk7 _ F7 N7
      have N8 := lift (its := []) N7
      rw [List.nil_append] at N8
      try clear N7
      show wpAny _ _ _ _ _ _
      k_steps
      unfold Stopped
      refine' sl_listTo (s := ⟨_, _, _, _, _⟩) (n := 4) (vs := vs) (c := c) ?k1 ?k2 ?k3 ?k4 ?k5 ?_ ?k6 ?k7
      case k1 => k_asm
      case k2 => k_asm
      case k3 => exact .tail _ (.tail _ (.tail _ (.tail _ mD)))
      case k4 => rfl
      case k5 => omega
      case k6 => with_unfolding_all rfl
      case k7 => intro _; with_unfolding_all rfl
      intro D4 h8 F8 N8 l8
      k_steps
      unfold Stopped
      have hS4 := strs_take 4 hS1
      refine wl_list (l := D4) (vs := vs.take 4) (nn := 0) (σ := Unit) (fun _ => (D4, listOf (vs.take 4).toArray 0) :: (x2, instObj 76 d2) :: (d2, entryD w ta tb tc td U2 R2) :: (x3, instObj 76 d3) :: (d3, entryD w tae tbe tce tde U3 R3) :: led) (fun _ => []) [PySem.Str.ofString "piece", PySem.Str.ofString "lone"]
        (fun _ _ => True) () rfl (fun _ _ _ => .head _) (by k_asm) (by k_asm) ?hk trivial ?turn2 ?done2
      case hk => kst_all
      case turn2 =>
        rintro ⟨⟩ i v u2 h9 tk9 I oI hv _ hne F9 N9
        obtain ⟨one, t1, hone, rfl⟩ := strs_at hS4 hv
        have ho1 : one ∈ leastOf sl := List.mem_of_mem_take (List.mem_of_getElem? hone)
        have hol := hlw one ho1
        have hoA := (hal one ho1).2
        dsimp only [kstB] at F9
        show wpAny _ _ _ _ _ _
        k_steps
        unfold Stopped
        rename_i ta1 ka1 ha1 tb1 kb1 Dp hb1 Fp Np lp
        refine wl_tuple (l := Dp) (vs := [Value.str (S one) t1, Value.str (S (one.drop 1)) ta1, Value.str (S one.dropLast) tb1]) (σ := Unit)
          (fun _ => (Dp, ({ cls := .type "tuple", data := .seq [Value.str (S one) t1, Value.str (S (one.drop 1)) ta1, Value.str (S one.dropLast) tb1].toArray } : Obj)) :: (I, oI) :: (D4, listOf (vs.take 4).toArray 0) :: (x2, instObj 76 d2) :: (d2, entryD w ta tb tc td U2 R2) :: (x3, instObj 76 d3) :: (d3, entryD w tae tbe tce tde U3 R3) :: led) (fun _ => []) [PySem.Str.ofString "lone"]
          (fun _ _ => True) () rfl (fun _ _ _ => .head _) (by k_asm) (by k_asm) ?hk2 trivial ?turn3 ?done3
        case hk2 => kst_all
        case turn3 =>
          rintro ⟨⟩ j v u3 h11 tk11 I3 oI3 hv3 _ hne3 F11 N11
          obtain ⟨pc, tp, hpc, rfl⟩ : ∃ pc tp, (pc = one ∨ pc = one.drop 1 ∨ pc = one.dropLast) ∧ v = .str (S pc) tp := by
            match j, hv3 with
            | 0, hv3 => cases hv3; exact ⟨_, _, .inl rfl, rfl⟩
            | 1, hv3 => cases hv3; exact ⟨_, _, .inr (.inl rfl), rfl⟩
            | 2, hv3 => cases hv3; exact ⟨_, _, .inr (.inr rfl), rfl⟩
            | n + 3, hv3 => simp at hv3
          have hpl : pc.length ≤ 14 := by
            rcases hpc with rfl | rfl | rfl
            · exact hol
            · rw [List.length_drop]; omega
            · rw [List.length_dropLast]; omega
          have hpA : ∀ c ∈ pc, Al c := by
            rcases hpc with rfl | rfl | rfl
            · exact hoA
            · exact fun c hc => hoA c (List.mem_of_mem_drop hc)
            · exact fun c hc => hoA c ((List.dropLast_subset one) hc)
          have hloA : ∀ c ∈ loneOf pc, Al c := by
            unfold loneOf; split
            · exact fun c hc => hpA c (List.mem_of_mem_drop hc)
            · intro c hc; rcases List.mem_cons.mp hc with rfl | hc
              · simp [Al]
              · exact hpA c hc
          have hlol : (loneOf pc).length ≤ 15 := by
            unfold loneOf; split
            · rw [List.length_drop]; omega
            · rw [List.length_cons]; omega
          have hmin := law_min hw aw hz hpw hpw1 ho1 hpc (wd ++ [47])
          rw [hn1] at hmin
          dsimp only [kstB] at F11
          show wpAny _ _ _ _ _ _
          k_steps
          unfold Stopped
          refine if_named (PySem.Str.ofString "lone") (loneOf pc) (by k_asm) (by k_asm) ?if1 ?after1
          case if1 =>
            refine wpAny_Assign_Name ?_
            k_steps
            all_goals
              unfold Stopped
              refine' named_new ?z1 ?z2 ?z3
              case z1 => k_asm
              case z2 => k_asm
              case z3 =>
                unfold loneOf
                first
                | rw [if_pos (by assumption)]
                | (rw [if_neg (by assumption)]; rfl)
          case after1 =>
            intro t12 h12 k12 F12 N12
            try clear F11
            try clear N11
            dsimp only
            k_steps
            unfold Stopped
            refine wpAny_If ?_
            k_steps
            unfold Stopped
            refine' Con.use (sent_con w _ (loneOf pc) _ _ n ?z1 hn) ?k1 ?k2 ?k3 ?k4 ?k5 ?k6 ?k7 ?k8 ?_
            case k4 => k_asm
            case z1 => omega
            case k1 => k_asm
            case k2 => k_asm
            case k3 => k_asm
            case k5 => k_asm
            case k6 => rfl
            case k7 => ktr_room
            case k8 => ktr_units
            intro t13 h13 tk13 F13 N13
            have hsl : (sent n (loneOf pc)).length ≤ 8002 := by have := Qn_le (n := n) (l := loneOf pc) (by omega) (by omega); show (Qn n (loneOf pc)).length + 1 + 1 ≤ 8002; omega
            show wpAny _ _ _ _ _ _
            k_steps
            unfold Stopped
            have hiff : appl [wd.map up, [42]] (sent n (loneOf pc) ++ [47] ++ wd ++ [47]) = decide (pc = one) := by
              have e2 : sent n (loneOf pc) ++ [47] ++ wd ++ [47] = sent n (loneOf pc) ++ 47 :: (wd ++ [47]) := by simp
              rw [e2, hmin]
            have hc1 : ∀ c ∈ sent n (loneOf pc) ++ [47] ++ wd ++ [47], c < 128 := by
              intro c hc
              simp only [List.mem_append, List.mem_singleton] at hc
              rcases hc with ((hc | rfl) | hc) | rfl
              · exact Al_lt (sent_mem Al (by simp [Al]) (by simp [Al]) (by simp [Al]) n _ hloA c hc)
              · decide
              · exact hA c hc
              · decide
            refine' Con.use (appl_use w ?rb hsB (show 2 ≤ 1000 by decide) hAB _ _ ?z1 hc1) ?k1 ?k2 ?k3 ?k4 ?k5 ?k6 ?k7 ?k8 ?_
            case k4 => k_asm
            case rb => exact rB.mono w fun q hq => .tail _ (.tail _ (.tail _ (.tail _ (.tail _ (.tail _ (.tail _ (.tail _ hq)))))))
            case z1 => simp only [List.length_append, List.length_cons, List.length_nil]; omega
            case k1 => k_asm
            case k2 => k_asm
            case k3 => k_asm
            case k5 => k_asm
            case k6 => rfl
            case k7 => ktr_room
            case k8 => ktr_units
            intro h14 tk14 F14 N14
            rw [hiff]
            show wpAny _ _ _ _ _ _
            k_steps
            unfold Stopped
            refine ne_same ?_
            k_steps
            refine' TurnEnd.next (c := ()) ?e1 ?e2 ?e3 ?e4 ?e5 ?e6 ?e7 ?e8
            case e1 => k_asm
            case e2 => k_asm
            case e3 => exact .head _
            case e4 => exact fun p hp => .tail _ hp
            case e5 => exact hne3
            case e6 => kst_all
            case e7 => kst_same
            case e8 => trivial
        case done3 =>
          rintro ⟨⟩ u3 h11 tk11 _ F11 N11
          dsimp only [kstB] at F11
          k_steps
          refine' TurnEnd.next (c := ()) ?e1 ?e2 ?e3 ?e4 ?e5 ?e6 ?e7 ?e8
          case e1 => k_asm
          case e2 => k_asm
          case e3 => exact .tail _ (.head _)
          case e4 => exact fun p hp => .tail _ (.tail _ hp)
          case e5 => exact hne
          case e6 => kst_all
          case e7 => kst_same
          case e8 => trivial
      case done2 =>
        rintro ⟨⟩ u2 h9 tk9 _ F9 N9
        dsimp only [kstB] at F9
        k_steps
        refine' leaveK_ ?d1 ?d2 ?_
        case d1 => k_asm
        case d2 => k_asm
        intro kF kN
        exact ret ps1 ex1 _ _ hT1 hx1 kF fun q hq => kN q (.tail _ (.tail _ (.tail _ (.tail _ (.tail _ (mnews q hq))))))
end Mine

end
/-! LawR -/
section
open PySem PySem.W PyProof.Rows
set_option maxRecDepth 100000
set_option maxHeartbeats 1000000
namespace Mine
/-! ## ints in lists; a list of the script's -/
theorem ints_at : ∀ {vs : List Value} {ns : List Int} {i : Nat} {v : Value}, IntsAre vs ns → vs[i]? = some v → ∃ n t, ns[i]? = some n ∧ v = .int n t
  | _, _, _, _, .nil, hv => by simp at hv
  | _, _, 0, _, .cons n t h, hv => by simp at hv; exact ⟨n, t, by simp, hv.symm⟩
  | _, _, i + 1, _, .cons n t h, hv => by simp at hv; simpa using ints_at h hv
theorem ints_snoc {n : Int} {t : Tok} : ∀ {vs : List Value} {ns : List Int}, IntsAre vs ns → IntsAre (vs ++ [.int n t]) (ns ++ [n])
  | _, _, .nil => .cons n t .nil
  | _, _, .cons n' t' h => .cons n' t' (ints_snoc h)
theorem ints_len : ∀ {vs : List Value} {ns : List Int}, IntsAre vs ns → vs.length = ns.length
  | _, _, .nil => rfl
  | _, _, .cons _ _ h => congrArg (· + 1) (ints_len h)
theorem ints_step {xs : List Int} {f : Int → Int} {y z : Int} {ys : List Value} {i : Nat} {t : Tok} (hI : IntsAre ys ((xs.take i).map f)) (hy : xs[i]? = some y) (hz : z = f y) : IntsAre (ys ++ [.int z t]) ((xs.take (i + 1)).map f) := by
  rw [List.take_add_one, hy, List.map_append, hz]
  exact ints_snoc hI
section
variable {prog : Program} {w : World} {A : Around} {E : Value → Shared → Prop} {s : Shared} {h₀ : Heap} {L : Addr} {m : PySem.Str → Option Value} {news : List (Addr × Obj)} {Q : Value → Shared → Prop}
theorem sl_baseTo {value slice : Expr} {l : Addr} {vs : List Value} {n : Nat} {j : Int} {u : Tok} (F : Fr h₀ L s.heap m) (N : News h₀ L s.heap news) (hl0 : h₀.IsList l vs.toArray) (hj : j = (n : Int)) (hl : vs.length ≤ 1000000)
    (h : ∀ D h', Fr h₀ L h' m → News h₀ L h' ((D, listOf (vs.take n).toArray 0) :: news) → (∀ p ∈ news, p.1 < D) → Q (.ref D) { s with heap := h' })
    (hs : subscripted slice false (.ref l) (.ref s.heap.objs.size) = operate [.ref s.heap.objs.size, .ref l] (getItem (.ref l) (.ref s.heap.objs.size)))
    (ht : ∀ r, letTemporaryGo value (.ref l) r = pure ()) :
    wpAny (model prog w) A (subscriptTail value slice (.ref l) (.ref s.heap.objs.size)) Q E { s with heap := s.heap.push { cls := .type "slice", data := .fields #[.none, .int j u, .none] } } := by
  subst hj
  refine slice_list (items := vs.toArray) F N (hl0.at fun o e => F.keep l o e) .none (.int _ u) (fun h' F' N' => ?_) hs ht (by rw [List.size_toArray, PySem.sizeLine_eq]; omega)
  rw [slicePick_upto'] at N'
  exact h _ h' F' N' fun p hp => Nat.lt_succ_of_lt (Heap.lt_size (N p hp).1)
theorem sum_I {l : Addr} {vs : List Value} {c : Nat} {ns : List Int} (hh : A.handled = none) (F : Fr h₀ L s.heap m) (N : News h₀ L s.heap news) (hm : (l, listOf vs.toArray c) ∈ news) (hi : IntsAre vs ns)
    (h : ∀ h' tk t', Fr h₀ L h' m → News h₀ L h' news → Q (.int ns.sum t') { s with heap := h', toks := tk }) :
    wpAny (model prog w) A (call (.builtin "sum") [.ref l]) Q E s := sumK hh F N ⟨_, (N _ hm).1, rfl, c, rfl⟩ hi h
end
/-! ## the signs -/
theorem lit_a : PySem.Str.ofString "a" = S [97] := by decide +kernel
theorem lit_B : PySem.Str.ofString "B" = S [66] := by decide +kernel
theorem lit_vt : PySem.Str.ofString "\x0b" = S [11] := by decide +kernel
theorem lit_tail : PySem.Str.ofString ".a\r\n.B\r*" = S [46, 97, 13, 10, 46, 66, 13, 42] := by decide +kernel
def signs : List (List Nat) := [[46], [13], [10], [97], [46, 46], [13, 10], [66], [42], [11]]
def Al7 (c : Nat) : Prop := c ∈ [46, 13, 10, 97, 66, 42, 11]
def wholeOf (ds : List Int) : List Nat := (ds.map fun d => signs.getD (d % 9).toNat []).flatMap id ++ [46, 97, 13, 10, 46, 66, 13, 42]
theorem sign_ok (k : Nat) : (signs.getD k []).length ≤ 2 ∧ ∀ c ∈ signs.getD k [], Al7 c := by
  rcases k with _ | _ | _ | _ | _ | _ | _ | _ | _ | k
  all_goals (first | (refine ⟨by decide, ?_⟩; simp [signs, Al7]; done) | simp [signs])
theorem signs_at {d : Int} (h : 0 ≤ d) : signs[(d % 9).toNat]? = some (signs.getD (d % 9).toNat []) := by
  have h1 : 0 ≤ d % 9 := Int.emod_nonneg _ (by decide)
  have h2 : d % 9 < 9 := Int.emod_lt_of_pos _ (by decide)
  have h3 : (d % 9).toNat < signs.length := by show _ < 9; omega
  rw [List.getD_eq_getElem?_getD, List.getElem?_eq_getElem h3]; rfl
theorem whole_len (ds : List Int) (h : ds.length ≤ 5) : 8 ≤ (wholeOf ds).length ∧ (wholeOf ds).length ≤ 18 := by
  have key : ∀ l : List Int, ((l.map fun d => signs.getD (d % 9).toNat []).flatMap id).length ≤ 2 * l.length := by
    intro l
    induction l with
    | nil => simp
    | cons a l ih =>
      simp only [List.map_cons, List.flatMap_cons, List.length_append, List.length_cons, id]
      have := (sign_ok (a % 9).toNat).1
      omega
  have := key ds
  unfold wholeOf
  rw [List.length_append]
  simp only [List.length_cons, List.length_nil]
  omega
theorem whole_al (ds : List Int) : ∀ c ∈ wholeOf ds, Al7 c := by
  intro c hc
  rcases List.mem_append.mp hc with hc | hc
  · obtain ⟨l, hl, hc⟩ := List.mem_flatMap.mp hc
    obtain ⟨d, _, rfl⟩ := List.mem_map.mp hl
    exact (sign_ok _).2 c hc
  · simp only [List.mem_cons, List.not_mem_nil, or_false] at hc
    rcases hc with rfl | rfl | rfl | rfl | rfl | rfl | rfl | rfl <;> simp [Al7]
theorem Al7_Al {c : Nat} (h : Al7 c) : Al c := by
  simp only [Al7, List.mem_cons, List.not_mem_nil, or_false] at h
  rcases h with rfl | rfl | rfl | rfl | rfl | rfl | rfl <;> simp [Al]
theorem Al7_z {c : Nat} (h : Al7 c) : c ≠ 122 := by
  simp only [Al7, List.mem_cons, List.not_mem_nil, or_false] at h
  rcases h with rfl | rfl | rfl | rfl | rfl | rfl | rfl <;> decide
theorem mod9 {d : Int} : d.fmod 9 = (((d % 9).toNat : Nat) : Int) := by
  rw [Int.fmod_eq_emod_of_nonneg _ (by decide)]
  exact (Int.toNat_of_nonneg (Int.emod_nonneg _ (by decide))).symm
theorem mod9_lt (d : Int) : (d % 9).toNat < 1000000 := by
  have h2 : d % 9 < 9 := Int.emod_lt_of_pos _ (by decide)
  omega
theorem join_ok {l : List Int} (h : l.length ≤ 5) : ((l.map fun d => signs.getD (d % 9).toNat []).map (·.length)).sum + (l.map fun d => signs.getD (d % 9).toNat []).length * ([] : List Nat).length ≤ 16777216 := by
  have key : ∀ l : List Int, ((l.map fun d => signs.getD (d % 9).toNat []).map (·.length)).sum ≤ 2 * l.length := by
    intro l
    induction l with
    | nil => simp
    | cons a l ih =>
      simp only [List.map_cons, List.sum_cons, List.length_cons]
      have := (sign_ok (a % 9).toNat).1
      omega
  have := key l
  simp only [List.length_nil, Nat.mul_zero, Nat.add_zero]
  omega
theorem flat_len {l : List Int} (h : l.length ≤ 5) : ((l.map fun d => signs.getD (d % 9).toNat []).flatMap id).length + [46, 97, 13, 10, 46, 66, 13, 42].length ≤ 1000000 := by
  have := whole_len l h
  unfold wholeOf at this
  rw [List.length_append] at this
  omega
theorem sum_nonneg : ∀ {ds : List Int}, (∀ d ∈ ds, 0 ≤ d ∧ d < 1000000) → 0 ≤ ds.sum ∧ ds.sum ≤ 1000000 * ds.length
  | [], _ => by simp
  | a :: ds, h => by
    have h1 := h a (List.mem_cons_self ..)
    have h2 := sum_nonneg fun d hd => h d (List.mem_cons_of_mem _ hd)
    simp only [List.sum_cons, List.length_cons]
    omega
/-! ## numbers that are not negative -/
section
variable {prog : Program} {w : World} {A : Around} {E : Value → Shared → Prop} {s : Shared} {Q : Value → Shared → Prop} {x y : Int} {a b : Nat} {t u : Tok}
theorem addN (hx : x = (a : Int)) (hy : y = (b : Int)) (h : ∀ t' k, Q (.int ((a + b : Nat) : Int) t') { s with toks := k }) : wpAny (model prog w) A (binaryOp .Add (.int x t) (.int y u)) Q E s := by
  subst hx; subst hy
  exact PyProof.Rows.add_int (h _ _)
theorem subN (hx : x = (a : Int)) (hy : y = (b : Int)) (hab : b ≤ a) (h : ∀ t' k, Q (.int ((a - b : Nat) : Int) t') { s with toks := k }) : wpAny (model prog w) A (binaryOp .Sub (.int x t) (.int y u)) Q E s := by
  subst hx; subst hy
  refine PyProof.Rows.sub_int ?_
  rw [← Int.ofNat_sub hab]; exact h _ _
theorem modN (hx : x = (a : Int)) (hy : y = (b : Int)) (hb : b ≠ 0) (h : ∀ t' k, Q (.int ((a % b : Nat) : Int) t') { s with toks := k }) : wpAny (model prog w) A (binaryOp .Mod (.int x t) (.int y u)) Q E s := by
  subst hx; subst hy
  refine PyProof.Rows.mod_int (by omega) ?_
  rw [Int.fmod_eq_emod_of_nonneg _ (by omega)]; exact h _ _
theorem divN (hx : x = (a : Int)) (hy : y = (b : Int)) (hb : b ≠ 0) (hb2 : b ≤ 1000) (h : ∀ t' k, Q (.int ((a / b : Nat) : Int) t') { s with toks := k }) : wpAny (model prog w) A (binaryOp .FloorDiv (.int x t) (.int y u)) Q E s := by
  subst hx; subst hy
  refine floordiv_int (by omega) ?_ (Or.inl (PyProof.noPylong_small (by omega)))
  rw [Int.fdiv_eq_ediv_of_nonneg _ (by omega)]; exact h _ _
end
theorem snd_ok (tn : Nat) : 1 ≤ 1 + tn % 3 ∧ 1 + tn % 3 ≤ 3 := by omega
def cutAt (l : List Nat) (k : Nat) : List Nat := l.take k ++ l.drop (k + 1)
def lettersOf (l : List Nat) : List (List Nat) := [l] ++ (List.range l.length).map (cutAt l)
theorem cut_len (l : List Nat) (k : Nat) : (l.take k).length + (l.drop (k + 1)).length ≤ l.length := by
  simp only [List.length_take, List.length_drop]; omega
theorem cut_mem {l : List Nat} {k c : Nat} (h : c ∈ cutAt l k) : c ∈ l := by
  rcases List.mem_append.mp h with h | h
  · exact List.mem_of_mem_take h
  · exact List.mem_of_mem_drop h
theorem letters_ok {l : List Nat} (h : l.length ≤ 18) (hA : ∀ c ∈ l, Al7 c) : (lettersOf l).length ≤ 19 ∧ ∀ x ∈ lettersOf l, x.length ≤ 18 ∧ ∀ c ∈ x, Al7 c := by
  unfold lettersOf
  refine ⟨by simp; omega, fun x hx => ?_⟩
  rcases List.mem_append.mp hx with hx | hx
  · rw [List.mem_singleton.mp hx]; exact ⟨h, hA⟩
  · obtain ⟨k, _, rfl⟩ := List.mem_map.mp hx
    refine ⟨?_, fun c hc => hA c (cut_mem hc)⟩
    have := cut_len l k
    unfold cutAt
    rw [List.length_append]
    omega
theorem range_step {f : Nat → List Nat} {ys : List Value} {i : Nat} {z : List Nat} {t : Tok} (hI : StrsAre ys (((List.range i).map f).map S)) (hz : z = f i) : StrsAre (ys ++ [.str (S z) t]) (((List.range (i + 1)).map f).map S) := by
  subst hz
  rw [List.range_succ, List.map_append]
  exact strs_append hI (strs_one _ _)
section
variable {prog : Program} {w : World} {A : Around} {E : Value → Shared → Prop} {s : Shared} {h₀ : Heap} {L : Addr} {m : PySem.Str → Option Value} {news : List (Addr × Obj)} {Q : Value → Shared → Prop}
theorem add_L {l b : Addr} {vs ws : List Value} {c d : Nat} (F : Fr h₀ L s.heap m) (N : News h₀ L s.heap news) (h1 : (l, listOf vs.toArray c) ∈ news) (h2 : (b, listOf ws.toArray d) ∈ news) (hsz : vs.length + ws.length ≤ 1000000)
    (h : ∀ D h', Fr h₀ L h' m → News h₀ L h' ((D, listOf (vs ++ ws).toArray 0) :: news) → (∀ p ∈ news, p.1 < D) → Q (.ref D) { s with heap := h' }) :
    wpAny (model prog w) A (binaryOp .Add (.ref l) (.ref b)) Q E s :=
  add_lists F N ⟨_, (N _ h1).1, rfl, c, rfl⟩ ⟨_, (N _ h2).1, rfl, d, rfl⟩ (fun h' F' N' => h _ h' F' N' fun p hp => Heap.lt_size (N p hp).1) (by rw [PySem.sizeLine_eq]; omega)
theorem apart {h : Heap} {a b : Addr} {o o' : Obj} (N : News h₀ L h news) (h1 : (a, o) ∈ news) (h2 : (b, o') ∈ news) (ho : o ≠ o') : a ≠ b := by
  rintro rfl
  have e1 := (N _ h1).1
  rw [(N _ h2).1] at e1
  exact ho (Option.some.inj e1).symm
end
theorem map_step {xs : List (List Nat)} {f : List Nat → List Nat} {ys : List Value} {i : Nat} {x z : List Nat} {t : Tok} (hI : StrsAre ys (((xs.take i).map f).map S)) (hx : xs[i]? = some x) (hz : z = f x) : StrsAre (ys ++ [.str (S z) t]) (((xs.take (i + 1)).map f).map S) := strs_step hI hx hz
theorem q_ne {b : Bool} : ∀ {m : List Nat}, m ≠ [] → q b m ≠ []
  | [], h => absurd rfl h
  | c :: r, _ => by
    rw [q.eq_def]
    dsimp only
    split
    · exact List.cons_ne_nil _ _
    · split
      · exact List.cons_ne_nil _ _
      · split <;> exact List.cons_ne_nil _ _
theorem Qn_ne : ∀ {n : Nat} {m : List Nat}, m ≠ [] → Qn n m ≠ []
  | 0, _, h => h
  | n + 1, m, h => by show Qn n (q true m) ≠ []; exact Qn_ne (q_ne h)
theorem sent_ge {n : Nat} {m : List Nat} (h : 8 ≤ m.length) : 3 ≤ (sent n m).length := by
  have h1 : Qn n m ≠ [] := Qn_ne (by rintro rfl; simp at h)
  have h2 : 0 < (Qn n m).length := List.length_pos_iff.mpr h1
  show 3 ≤ (Qn n m).length + 1 + 1
  omega
theorem idx_ok {a W : Nat} (h : 3 ≤ W) : a % (W - 2) + 3 ≤ W := by
  have := Nat.mod_lt a (y := W - 2) (by omega)
  omega
theorem idx_ok2 {a V : Nat} (h : 8 ≤ V) : a % (V - 1) + 3 ≤ V + 1 := by
  have := Nat.mod_lt a (y := V - 1) (by omega)
  omega
theorem cut_ok {l : List Nat} {a x : Nat} (h : a + 3 ≤ l.length) (hx : x ≤ 3) (hA : ∀ c ∈ l, Al7 c) : 3 ≤ ((l.drop a).take (a + 3 + x - a)).length ∧ ((l.drop a).take (a + 3 + x - a)).length ≤ 6 ∧ ∀ c ∈ (l.drop a).take (a + 3 + x - a), Al7 c := by
  refine ⟨?_, ?_, fun c hc => hA c (List.mem_of_mem_drop (List.mem_of_mem_take hc))⟩
  · rw [List.length_take, List.length_drop]; omega
  · rw [List.length_take, List.length_drop]; omega
theorem Al7_sent {n : Nat} {m : List Nat} (h : ∀ c ∈ m, Al7 c) : ∀ c ∈ sent n m, Al7 c := sent_mem Al7 (by simp [Al7]) (by simp [Al7]) (by simp [Al7]) n m h
theorem all_told {n : Nat} (h1 : 1 ≤ n) (ls : List (List Nat)) : ls.map (told n) = ls.map (sent n) := by
  obtain ⟨k, rfl⟩ : ∃ k, n = k + 1 := ⟨n - 1, by omega⟩
  exact List.map_congr_left fun x _ => (told_sent k x).symm
theorem sub2_ok {W : Nat} (h : 3 ≤ W) : 2 ≤ W ∧ W - 2 ≠ 0 := by omega
theorem sub1_ok {V : Nat} (h : 8 ≤ V) : 1 ≤ V ∧ V - 1 ≠ 0 := by omega
theorem letters_at {n : Nat} {l : List Nat} : ((lettersOf l).map (sent n))[0]? = some (sent n l) := rfl
theorem sent_le {n : Nat} {l : List Nat} (hn : n ≤ 3) (hl : l.length ≤ 1000) : (sent n l).length ≤ 8002 := by
  have h1 := Qn_len n l
  have h2 : 2 ^ n ≤ 2 ^ 3 := Nat.pow_le_pow_right (by decide) hn
  have h3 : 2 ^ n * l.length ≤ 2 ^ 3 * 1000 := Nat.mul_le_mul h2 hl
  show (Qn n l).length + 1 + 1 ≤ 8002
  omega
theorem le_two (a x : Nat) : a ≤ a + 3 + x := by omega
theorem r4 (x : Nat) : x % 4 ≤ 3 := by have := Nat.mod_lt x (y := 4) (by decide); omega
theorem r3 (x : Nat) : x % 3 ≤ 3 := by have := Nat.mod_lt x (y := 3) (by decide); omega
theorem app1_len {l : List Nat} (h : l.length ≤ 18) : ([10] : List Nat).length + l.length ≤ 1000000 := by simp only [List.length_cons, List.length_nil]; omega
theorem app1_le {l : List Nat} (h : l.length ≤ 18) : ([10] ++ l).length ≤ 1000000 := by rw [List.length_append]; exact app1_len h
theorem app1_al {l : List Nat} (h : ∀ c ∈ l, Al7 c) : ∀ c ∈ [10] ++ l, Al7 c := fun c hc => by
  rcases List.mem_append.mp hc with hc | hc
  · rw [List.mem_singleton.mp hc]; simp [Al7]
  · exact h c hc
theorem app1_ge {l : List Nat} {b : Nat} (h : b + 3 ≤ l.length + 1) : b + 3 ≤ ([10] ++ l).length := by rw [List.length_append]; simp only [List.length_cons, List.length_nil]; omega
section
variable {prog : Program} {w : World} {A : Around} {E : Value → Shared → Prop} {s : Shared} {h₀ : Heap} {L : Addr} {m : PySem.Str → Option Value} {news : List (Addr × Obj)} {Q : Value → Shared → Prop} {value slice : Expr}
/-- a word cut out of a text -/
theorem sl_cut {x : PySem.Str} {l : List Nat} {i j : Int} {a r : Nat} {t u u' : Tok} (F : Fr h₀ L s.heap m) (N : News h₀ L s.heap news) (hx : x = S l) (hi : i = (a : Int)) (hj : j = ((a + 3 + r : Nat) : Int)) (ha : a + 3 ≤ l.length) (hr : r ≤ 3) (hA : ∀ c ∈ l, Al7 c) (hl : l.length ≤ 1000000)
    (h : ∀ h' t' k v, 3 ≤ v.length → v.length ≤ 6 → (∀ c ∈ v, Al7 c) → Fr h₀ L h' m → News h₀ L h' news → Q (.str (S v) t') { s with heap := h', toks := k })
    (hs : subscripted slice false (.str x t) (.ref s.heap.objs.size) = operate [.ref s.heap.objs.size, .str x t] (getItem (.str x t) (.ref s.heap.objs.size)))
    (ht : ∀ r, letTemporaryGo value (.str x t) r = pure ()) :
    wpAny (model prog w) A (subscriptTail value slice (.str x t) (.ref s.heap.objs.size)) Q E { s with heap := s.heap.push { cls := .type "slice", data := .fields #[.int i u, .int j u', .none] } } := by
  obtain ⟨h3, h6, hA'⟩ := cut_ok ha hr hA
  exact sl_two F N hx hi hj (le_two a r) hl (fun h' t' k F' N' => h h' t' k _ h3 h6 hA' F' N') hs ht
end
end Mine

end
/-! F9 -/
section
open PySem PySem.W PyProof.Rows
set_option maxRecDepth 100000
set_option maxHeartbeats 8000000
namespace Mine

local macro_rules | `(tactic| walk_at "asS") => `(tactic| first | with_reducible exact lit_l | with_reducible exact lit_r | with_reducible exact lit_rl | with_reducible exact lit_d | with_reducible exact lit_d2 | with_reducible exact lit_e | with_reducible exact lit_sl | with_reducible exact lit_z | with_reducible exact lit_st | with_reducible exact rfl)
local macro_rules | `(tactic| walk_at "lens") => `(tactic| first | omega | ((simp only [List.length_append, List.length_cons, List.length_nil, List.length_drop, List.length_take, List.length_map, List.length_replicate]); omega) | ((simp only [List.length_append, List.length_cons, List.length_nil, List.length_drop, List.length_take, List.length_map, List.length_replicate] at *); omega))
local macro_rules | `(tactic| walk_at "pyIter ref") => `(tactic| (k_here; refine Stopped.here ?_))


local macro_rules | `(tactic| walk_at "binaryOp Add str str") => `(tactic| (k_here; (with_reducible show wpAny _ _ (binaryOp Operator.Add (Value.str _ _) (Value.str _ _)) _ _ _); k_dflt (refine' add_S ?k1 ?k2 ?k3 ?_; (case k1 => walk_at "asS"); (case k2 => walk_at "asS"); (case k3 => walk_at "lens"); (intro t' k' ln'))))
local macro_rules | `(tactic| walk_at "eval ListComp") => `(tactic| (k_here; refine Stopped.here ?_))
local macro_rules | `(tactic| walk_at "CompSrc") => `(tactic| (k_here; refine Stopped.here ?_))
local macro_rules | `(tactic| walk_at "exec If") => `(tactic| (k_here; refine Stopped.here ?_))
local macro_rules | `(tactic| walk_at "subscriptTail Name Slice str ref") => `(tactic| (k_here; (with_reducible show wpAny _ _ (subscriptTail _ (Expr.Slice _ _ _ _) (Value.str _ _) (Value.ref _)) _ _ _); (first
  | ((with_reducible show wpAny _ _ (subscriptTail _ (Expr.Slice (some _) none none _) _ _) _ _ _); k_dflt (refine' sl_last (s := ⟨_, _, _, _, _⟩) ?k1 ?k2 ?k3 ?k4 ?k5 ?_ ?k6 ?k7; (case k1 => k_asm); (case k2 => k_asm); (case k3 => walk_at "asS"); (case k4 => exact rfl); (case k5 => walk_at "lens"); (case k6 => with_unfolding_all rfl); (case k7 => intro _; with_unfolding_all rfl)))
  | ((with_reducible show wpAny _ _ (subscriptTail _ (Expr.Slice none (some _) none _) _ _) _ _ _); k_dflt (refine' sl_but (s := ⟨_, _, _, _, _⟩) ?k1 ?k2 ?k3 ?k4 ?k5 ?_ ?k6 ?k7; (case k1 => k_asm); (case k2 => k_asm); (case k3 => walk_at "asS"); (case k4 => exact rfl); (case k5 => walk_at "lens"); (case k6 => with_unfolding_all rfl); (case k7 => intro _; with_unfolding_all rfl)))
  | ((with_reducible show wpAny _ _ (subscriptTail _ (Expr.Slice none (some _) none _) _ _) _ _ _); k_dflt (refine' sl_to (s := ⟨_, _, _, _, _⟩) ?k1 ?k2 ?k3 ?k4 ?k5 ?_ ?k6 ?k7; (case k1 => k_asm); (case k2 => k_asm); (case k3 => walk_at "asS"); (case k4 => exact rfl); (case k5 => walk_at "lens"); (case k6 => with_unfolding_all rfl); (case k7 => intro _; with_unfolding_all rfl)))
  | ((with_reducible show wpAny _ _ (subscriptTail _ (Expr.Slice (some _) none none _) _ _) _ _ _); k_dflt (refine' sl_from (s := ⟨_, _, _, _, _⟩) ?k1 ?k2 ?k3 ?k4 ?k5 ?_ ?k6 ?k7; (case k1 => k_asm); (case k2 => k_asm); (case k3 => walk_at "asS"); (case k4 => exact rfl); (case k5 => walk_at "lens"); (case k6 => with_unfolding_all rfl); (case k7 => intro _; with_unfolding_all rfl)))); intro _ _ _ _ _))


local macro_rules | `(tactic| walk_at "subscriptTail") => `(tactic| (k_here; (with_reducible show wpAny _ _ (subscriptTail _ _ (Value.ref _) (Value.int _ _)) _ _ _); k_dflt (refine' item_S ?k1 ?k2 ?k3 ?k4 ?k5 ?k6 ?_ ?k7; (case k1 => k_asm); (case k2 => k_mem); (case k3 => assumption); (case k4 => first | exact rfl | assumption); (case k5 => first | decide | omega); (case k6 => first | assumption | exact rfl); (case k7 => with_unfolding_all rfl)); intro _))
local macro_rules | `(tactic| walk_at "call builtin:len") => `(tactic| (k_here; (with_reducible show wpAny _ _ (call (Value.builtin "len") [Value.ref _]) _ _ _); k_dflt (refine' len_S ?k1 ?k2 ?k3 ?k4 ?_; (case k1 => k_asm); (case k2 => k_mem); (case k3 => assumption); (case k4 => omega)); intro _ _))
local macro_rules | `(tactic| walk_at "upd") => `(tactic| first | (refine' Upd.head ?a; (case a => exact fun p hp => Nat.ne_of_lt (lt_of_all _ (by assumption) p hp))) | (refine' Upd.tail ?a ?b; (case a => first | (refine Ne.symm ?_; assumption) | k_ne); (case b => walk_at "upd")))
local macro_rules | `(tactic| walk_at "compareOp NotEq ref ref") => `(tactic| (k_here; refine Stopped.here ?_))
local macro_rules | `(tactic| walk_at "exec Assign cons ListComp") => `(tactic| (k_here; refine Stopped.here ?_))
local macro_rules | `(tactic| walk_at "call ref") => `(tactic| (k_here; refine Stopped.here ?_))
local macro_rules | `(tactic| walk_at "subscriptTail") => `(tactic| (k_here; refine Stopped.here ?_))
local macro_rules | `(tactic| walk_at "subscriptTail Name Slice ref ref") => `(tactic| (k_here; refine Stopped.here ?_))
local macro_rules | `(tactic| walk_at "call builtin:str.join") => `(tactic| (k_here; refine Stopped.here ?_))
local macro_rules | `(tactic| walk_at "binaryOp Add str str") => `(tactic| (k_here; refine Stopped.here ?_))
local macro_rules | `(tactic| walk_at "binaryOp Add ref ref") => `(tactic| (k_here; refine Stopped.here ?_))
local macro_rules | `(tactic| walk_at "subscriptTail Name Slice str ref") => `(tactic| (k_here; refine Stopped.here ?_))
local macro_rules | `(tactic| walk_at "call builtin:len") => `(tactic| (k_here; refine Stopped.here ?_))
local macro_rules | `(tactic| walk_at "asN") => `(tactic| first | exact rfl | assumption)
local macro_rules | `(tactic| walk_at "binaryOp Add int int") => `(tactic| (k_here; k_dflt (refine' addN ?k1 ?k2 ?_; (case k1 => walk_at "asN"); (case k2 => walk_at "asN")); intro _ _))
local macro_rules | `(tactic| walk_at "binaryOp Sub int int") => `(tactic| (k_here; k_dflt (refine' subN ?k1 ?k2 ?k3 ?_; (case k1 => walk_at "asN"); (case k2 => walk_at "asN"); (case k3 => first | assumption | decide)); intro _ _))
local macro_rules | `(tactic| walk_at "binaryOp Mod int int") => `(tactic| (k_here; k_dflt (refine' modN ?k1 ?k2 ?k3 ?_; (case k1 => walk_at "asN"); (case k2 => walk_at "asN"); (case k3 => first | decide | assumption)); intro _ _))
local macro_rules | `(tactic| walk_at "binaryOp FloorDiv int int") => `(tactic| (k_here; k_dflt (refine' divN ?k1 ?k2 ?k3 ?k4 ?_; (case k1 => walk_at "asN"); (case k2 => walk_at "asN"); (case k3 => decide); (case k4 => decide)); intro _ _))
local macro_rules | `(tactic| walk_at "call builtin:sum") => `(tactic| (k_here; refine Stopped.here ?_))
theorem sg_are (t1 t2 t3 t4 t5 t6 t7 t8 t9 : Tok) : StrsAre [.str (PySem.Str.ofString ".") t1, .str (PySem.Str.ofString "\r") t2, .str (PySem.Str.ofString "\n") t3, .str (PySem.Str.ofString "a") t4, .str (PySem.Str.ofString "..") t5, .str (PySem.Str.ofString "\r\n") t6, .str (PySem.Str.ofString "B") t7, .str (PySem.Str.ofString "*") t8, .str (PySem.Str.ofString "\x0b") t9] (signs.map S) := by
  rw [lit_d, lit_r, lit_l, lit_a, lit_d2, lit_rl, lit_B, lit_st, lit_vt]
  exact .cons _ _ (.cons _ _ (.cons _ _ (.cons _ _ (.cons _ _ (.cons _ _ (.cons _ _ (.cons _ _ (.cons _ _ .nil))))))))
theorem law_holds : PySem.Challenge.rw_sc0024_01.Holds := by
  refine hd ?_
  k_go0
  (all_goals try k_fold)
  rename_i w9 s0 s1 mg9 mb9 G9 Y9 fa9 o99 pm9 cd9 doc9 ho9 hcd9 hg9 X9 V9 T9 B9 TE9 TW9 ns hs9 hlay9 hL9 hr9 hl29 w77 w66 sa sv w33 hLs ra9 w19 r09 hI9 hr99 hc9 hc99 hD9 h1 tk1 oc2 oc1 oc0 le1 le2 le3 X0 X1 T1 K1 F1 N1 l0
  k_steps
  unfold Stopped
  refine LCg.Assign_ListComp_U (F₀ := by k_asm) (by rfl) (by with_unfolding_all rfl) (by with_unfolding_all rfl) (by decide) (by rfl) (by decide) (by rfl) (by rfl) (by rfl) ?_
  k_steps
  unfold Stopped
  have hsvl : sv.length ≤ 63 := by have := ints_len hI9; omega
  refine' sl_baseTo (s := ⟨_, _, _, _, _⟩) (n := 5) (vs := sv) ?k1 ?k2 ?k3 ?k4 ?k5 ?_ ?k6 ?k7
  case k1 => k_asm
  case k2 => k_asm
  case k3 => exact lifted
  case k4 => rfl
  case k5 => omega
  case k6 => with_unfolding_all rfl
  case k7 => intro _; with_unfolding_all rfl
  intro D1 h2 F2 N2 l2
  k_lt l2
  k_steps
  unfold Stopped
  have hI5 : IntsAre (sv.take 5) (ns.take 5) := hI9.take 5
  refine LCg.CompSrc.ledger (by rfl) (by k_asm) (by k_asm) (by k_mem) ?sz ?_
  case sz => rw [List.size_toArray, List.length_take, PySem.sizeLine_eq]; omega
  intro gg
  refine wc_rest (fun i ys => IntsAre ys (((ns.take 5).take i).map (· % 1000000))) (.inr ⟨_, by k_mem, rfl, _, rfl⟩) ?i0 ?turn ?fin
  case i0 => exact .nil
  case turn =>
    intro i v I oI C oC D m₂ ys h tk E' hi hv hI hC hx F N off ne
    simp only [List.getElem?_toArray] at hv
    obtain ⟨y, ty, hy, rfl⟩ := ints_at hI5 hv
    (try simp only [LCg.Off3, and_true] at off)
    dsimp only
    k_steps
    unfold Stopped
    refine' CEnd.intro ?z1 ?z2 ?z3 ?z4
    case z1 => k_asm
    case z2 => k_asm
    case z3 => exact fun p h => h
    case z4 => exact ints_step hI hy (Int.fmod_eq_emod_of_nonneg _ (by decide))
  case fin =>
    intro ys hI
    rw [List.size_toArray, ints_len hI5, List.take_length] at hI
    have hd5 : ((ns.take 5).map (· % 1000000)).length ≤ 5 := by rw [List.length_map, List.length_take]; omega
    have hdb : ∀ d ∈ (ns.take 5).map (· % 1000000), 0 ≤ d ∧ d < 1000000 := fun d hd => by
      obtain ⟨x, _, rfl⟩ := List.mem_map.mp hd
      exact ⟨Int.emod_nonneg _ (by decide), Int.emod_lt_of_pos _ (by decide)⟩
    generalize (ns.take 5).map (· % 1000000) = ds at *
    unfold LCg.FinA
    intro D2 h3 tk3 F3 N3 o2
    (try simp only [LCg.Off1, and_true] at o2)
    dsimp only
    k_steps
    unfold Stopped
    refine LCg.ListComp_U (F₀ := by k_asm) (by with_unfolding_all rfl) (by decide) (by rfl) (by decide) (by rfl) ?_
    k_steps
    unfold Stopped
    have hysl := ints_len hI
    refine LCg.CompSrc.ledger (by rfl) (by k_asm) (by k_asm) (by k_mem) ?sz ?_
    case sz => rw [List.size_toArray, PySem.sizeLine_eq]; omega
    intro gg2
    refine wc_rest (fun i zs => StrsAre zs (((ds.take i).map fun d => signs.getD (d % 9).toNat []).map S)) (.inr ⟨_, by k_mem, rfl, _, rfl⟩) ?i0 ?turn ?fin
    case i0 => exact .nil
    case turn =>
      intro i v I oI C oC D m₂ zs h tk E' hi hv hI3 hC hx F N off ne
      simp only [List.getElem?_toArray] at hv
      obtain ⟨y, ty, hy, rfl⟩ := ints_at hI hv
      have hyb := hdb y (List.mem_of_getElem? hy)
      (try simp only [LCg.Off3, and_true] at off)
      dsimp only
      k_steps
      unfold Stopped
      refine' item_S (ys := signs) (n := (y % 9).toNat) (y' := signs.getD (y % 9).toNat []) ?k1 ?k2 (sg_are _ _ _ _ _ _ _ _ _) ?k4 ?k5 (signs_at hyb.1) ?_ ?k7
      case k1 => k_asm
      case k2 => k_mem
      case k4 => exact mod9
      case k5 => exact mod9_lt _
      case k7 => with_unfolding_all rfl
      intro t9
      refine' CEnd.intro ?z1 ?z2 ?z3 ?z4
      case z1 => k_asm
      case z2 => k_asm
      case z3 => exact fun p h => h
      case z4 => exact strs_step hI3 hy rfl
    case fin =>
      intro zs hI3
      rw [List.size_toArray, hysl, List.take_length] at hI3
      unfold LCg.FinE
      intro D3 h4 tk4 F4 N4 o4
      (try simp only [LCg.Off1, and_true] at o4)
      dsimp only
      k_steps
      unfold Stopped
      refine' join_S (sep := []) ?k1 ?k2 hI3 lit_e ?k4 ?_
      case k1 => k_asm
      case k2 => k_mem
      case k4 => exact join_ok hd5
      intro t10 k10
      rw [joinL_empty]
      show wpAny _ _ _ _ _ _
      k_steps
      unfold Stopped
      refine add_S rfl lit_tail (flat_len hd5) ?_
      intro t11 k11 _
      obtain ⟨hw8, hw18⟩ := whole_len ds hd5
      have hwA := whole_al ds
      have ew : (List.flatMap id (List.map (fun d => signs.getD (d % 9).toNat []) ds) ++ [46, 97, 13, 10, 46, 66, 13, 42]) = wholeOf ds := rfl
      rw [ew]
      clear ew
      have hsum := sum_nonneg hdb
      have hst : 0 ≤ ds.sum ∧ ds.sum ≤ 5000000 := ⟨hsum.1, by omega⟩
      clear hsum
      generalize wholeOf ds = wl at *
      show wpAny _ _ _ _ _ _
      k_steps
      unfold Stopped
      refine' sum_I (by rfl) ?k2 ?k3 ?k4 hI ?_
      case k2 => k_asm
      case k3 => k_asm
      case k4 => k_mem
      intro h5 tk5 t12 F5 N5
      obtain ⟨tn, htn⟩ : ∃ tn : Nat, ds.sum = (tn : Int) := ⟨ds.sum.toNat, (Int.toNat_of_nonneg hst.1).symm⟩
      rw [htn]
      clear htn hst
      show wpAny _ _ _ _ _ _
      k_steps
      unfold Stopped
      rename_i tS kS hS1 oS dS lS hS2 FS NS lS1
      obtain ⟨hn1, hn3⟩ := snd_ok tn
      generalize 1 + tn % 3 = n at *
      refine LCg.ListComp_U (F₀ := by k_asm) (by with_unfolding_all rfl) (by decide) (by rfl) (by decide) (by rfl) ?_
      k_steps
      unfold Stopped
      refine len_T (Nat.le_trans hw18 (by decide)) ?_
      intro t13 k13
      k_steps
      unfold Stopped
      refine LCg.CompSrc.range (n := wl.length) (by rfl) (by k_asm) (by k_asm) (by assumption) (rsmall 0 _ (by decide) (Nat.le_trans hw18 (by decide))) (rsize _) ?sz ?_
      case sz => rw [PySem.sizeLine_eq]; exact Nat.le_trans hw18 (by decide)
      intro gg3
      refine wc_rest (fun i zs => StrsAre zs (((List.range i).map (cutAt wl)).map S)) trivial ?i0 ?turn ?fin
      case i0 => exact .nil
      case turn =>
        rintro i v I oI C oC D m₂ zs h tk E' hi ⟨ti, rfl⟩ hI4 hC hx F N off ne
        rw [show (((0 : Nat) : Int) + (i : Int)) = (i : Int) from Int.zero_add _] at hx
        (try simp only [LCg.Off3, and_true] at off)
        dsimp only
        k_steps
        unfold Stopped
        refine' sl_to (s := ⟨_, _, _, _, _⟩) (n := i) (l := wl) ?k1 ?k2 ?k3 ?k4 ?k5 ?_ ?k6 ?k7
        case k1 => k_asm
        case k2 => k_asm
        case k3 => rfl
        case k4 => rfl
        case k5 => exact Nat.le_trans hw18 (by decide)
        case k6 => with_unfolding_all rfl
        case k7 => intro _; with_unfolding_all rfl
        intro h7 t14 k14 F7 N7
        k_steps
        unfold Stopped
        refine' sl_from (s := ⟨_, _, _, _, _⟩) (n := i + 1) (l := wl) ?k1 ?k2 ?k3 ?k4 ?k5 ?_ ?k6 ?k7
        case k1 => k_asm
        case k2 => k_asm
        case k3 => rfl
        case k4 => rfl
        case k5 => exact Nat.le_trans hw18 (by decide)
        case k6 => with_unfolding_all rfl
        case k7 => intro _; with_unfolding_all rfl
        intro h8 t15 k15 F8 N8
        k_steps
        unfold Stopped
        refine add_S rfl rfl (Nat.le_trans (cut_len wl i) (Nat.le_trans hw18 (by decide))) ?_
        intro t16 k16 _
        refine' CEnd.intro ?z1 ?z2 ?z3 ?z4
        case z1 => k_asm
        case z2 => k_asm
        case z3 => exact fun p h => h
        case z4 => exact range_step hI4 rfl
      case fin =>
        intro zs2 hI4
        unfold LCg.FinE
        intro D4 h6 tk6 F6 N6 o6
        (try simp only [LCg.Off1, and_true] at o6)
        dsimp only
        k_steps
        unfold Stopped
        have hzl := strs_len hI4
        rw [List.length_map, List.length_range] at hzl
        refine' add_L (vs := [Value.str (S wl) t11]) (ws := zs2) ?k1 ?k2 ?k3 ?k4 ?k5 ?_
        case k1 => k_asm
        case k2 => k_asm
        case k3 => k_mem
        case k4 => k_mem
        case k5 => rw [hzl]; exact Nat.le_trans (Nat.add_le_add_left hw18 1) (by decide)
        intro D5 h7 F7 N7 l7
        k_lt l7
        have hSl : StrsAre ([Value.str (S wl) t11] ++ zs2) ((lettersOf wl).map S) := strs_append (strs_one wl t11) hI4
        obtain ⟨hl19, hlok⟩ := letters_ok hw18 hwA
        have hlv := strs_len hSl
        generalize [Value.str (S wl) t11] ++ zs2 = lvs at *
        have hlv64 : lvs.length ≤ 19 := by rw [hlv]; exact hl19
        show wpAny _ _ _ _ _ _
        k_steps
        unfold Stopped
        refine LCg.Assign_ListComp_U (F₀ := by k_asm) (by rfl) (by with_unfolding_all rfl) (by with_unfolding_all rfl) (by decide) (by rfl) (by decide) (by rfl) (by rfl) (by rfl) ?_
        k_steps
        unfold Stopped
        refine LCg.CompSrc.ledger (by rfl) (by k_asm) (by k_asm) (by k_mem) ?sz ?_
        case sz => rw [List.size_toArray, PySem.sizeLine_eq]; exact Nat.le_trans hlv64 (by decide)
        intro gg4
        refine wc_rest (fun i zs => StrsAre zs ((((lettersOf wl).take i).map (sent n)).map S)) (.inr ⟨_, by k_mem, rfl, _, rfl⟩) ?i0 ?turn ?fin
        case i0 => exact .nil
        case turn =>
          intro i v I oI C oC D m₂ zs h tk E' hi hv hI5 hC hx F N off ne
          simp only [List.getElem?_toArray] at hv
          obtain ⟨x, tx, hx2, rfl⟩ := strs_at hSl hv
          obtain ⟨hxl, hxA⟩ := hlok x (List.mem_of_getElem? hx2)
          (try simp only [LCg.Off3, and_true] at off)
          dsimp only
          k_steps
          unfold Stopped
          refine' Con.use (sent_con _ _ x _ _ n (Nat.le_trans hxl (by decide)) hn3) ?k1 ?k2 ?k3 ?k4 ?k5 ?k6 ?k7 ?k8 ?_
          case k4 => k_asm
          case k1 => k_asm
          case k2 => k_asm
          case k3 => k_asm
          case k5 => k_asm
          case k6 => rfl
          case k7 => ktr_room
          case k8 => ktr_units
          intro t17 h8 tk8 F8 N8
          k_steps
          unfold Stopped
          refine' CEnd.intro ?z1 ?z2 ?z3 ?z4
          case z1 => k_asm
          case z2 => k_asm
          case z3 => exact fun p h => h
          case z4 => exact map_step hI5 hx2 rfl
        case fin =>
          intro zs3 hI5
          rw [List.size_toArray, hlv, List.take_length] at hI5
          unfold LCg.FinA
          intro D6 h8 tk8 F8 N8 o8
          (try simp only [LCg.Off1, and_true] at o8)
          dsimp only
          k_steps
          unfold Stopped
          refine wpAny_If ?_
          k_steps
          unfold Stopped
          refine LCg.ListComp_U (F₀ := by k_asm) (by with_unfolding_all rfl) (by decide) (by rfl) (by decide) (by rfl) ?_
          k_steps
          unfold Stopped
          refine LCg.CompSrc.ledger (by rfl) (by k_asm) (by k_asm) (by k_mem : (D5, listOf lvs.toArray 0) ∈ _) ?sz ?_
          case sz => rw [List.size_toArray, PySem.sizeLine_eq]; exact Nat.le_trans hlv64 (by decide)
          intro gg5
          refine wc_rest (fun i zs => StrsAre zs ((((lettersOf wl).take i).map (told n)).map S)) (.inr ⟨_, (by k_mem : (D5, listOf lvs.toArray 0) ∈ _), rfl, _, rfl⟩) ?i0 ?turn ?fin
          case i0 => exact .nil
          case turn =>
            intro i v I oI C oC D m₂ zs h tk E' hi hv hI6 hC hx F N off ne
            simp only [List.getElem?_toArray] at hv
            obtain ⟨x, tx, hx2, rfl⟩ := strs_at hSl hv
            obtain ⟨hxl, hxA⟩ := hlok x (List.mem_of_getElem? hx2)
            (try simp only [LCg.Off3, and_true] at off)
            dsimp only
            k_steps
            unfold Stopped
            refine' Con.use (told_con _ _ x _ _ n (Nat.le_trans hxl (by decide)) hn3) ?k1 ?k2 ?k3 ?k4 ?k5 ?k6 ?k7 ?k8 ?_
            case k4 => k_asm
            case k1 => k_asm
            case k2 => k_asm
            case k3 => k_asm
            case k5 => k_asm
            case k6 => rfl
            case k7 => ktr_room
            case k8 => ktr_units
            intro t17 h9 tk9 F9 N9
            k_steps
            unfold Stopped
            refine' CEnd.intro ?z1 ?z2 ?z3 ?z4
            case z1 => k_asm
            case z2 => k_asm
            case z3 => exact fun p h => h
            case z4 => exact map_step hI6 hx2 rfl
          case fin =>
            intro zs4 hI6
            rw [List.size_toArray, hlv, List.take_length, all_told hn1] at hI6
            unfold LCg.FinE
            intro D7 h9 tk9 F9 N9 o9
            (try simp only [LCg.Off1, and_true] at o9)
            dsimp only
            k_steps
            unfold Stopped
            have hsA : ∀ y ∈ (lettersOf wl).map (sent n), ∀ c ∈ y, c < 128 := fun y hy c hc => by
              obtain ⟨x, hx, rfl⟩ := List.mem_map.mp hy
              exact Al_lt (Al7_Al (Al7_sent (hlok x hx).2 c hc))
            refine' ne_texts ?n1 ?n2 ?n3 hI5 hI6 hsA hsA ?n7 ?_
            case n1 => k_asm
            case n2 => k_mem
            case n3 => k_mem
            case n7 => first | ktr_units | ke_room
            rw [decide_eq_true rfl]
            show wpAny _ _ _ _ _ _
            k_steps
            unfold Stopped
            have hW3 : 3 ≤ (sent n wl).length := sent_ge hw8
            have hWl : (sent n wl).length ≤ 8002 := sent_le hn3 (Nat.le_trans hw18 (by decide))
            obtain ⟨hW2, hW0⟩ := sub2_ok hW3
            obtain ⟨hV1, hV0⟩ := sub1_ok hw8
            refine' item_S (ys := (lettersOf wl).map (sent n)) (n := 0) (y' := sent n wl) ?k1 ?k2 hI5 ?k4 (by decide) letters_at ?_ ?k7
            case k1 => k_asm
            case k2 => k_mem
            case k4 => rfl
            case k7 => with_unfolding_all rfl
            intro t18
            k_steps
            unfold Stopped
            refine len_T (Nat.le_trans hWl (by decide)) ?_
            intro t19 k19
            k_steps
            unfold Stopped
            have hst3 := idx_ok (a := tn / 3 + 2) hW3
            generalize (tn / 3 + 2) % ((sent n wl).length - 2) = st at *
            refine len_T (Nat.le_trans hw18 (by decide)) ?_
            intro t20 k20
            k_steps
            unfold Stopped
            have hbg3 := idx_ok2 (a := tn / 5 + 2) hw8
            generalize (tn / 5 + 2) % (wl.length - 1) = bg at *
            refine' item_S (ys := (lettersOf wl).map (sent n)) (n := 0) (y' := sent n wl) ?k1 ?k2 hI5 ?k4 (by decide) letters_at ?_ ?k7
            case k1 => k_asm
            case k2 => k_mem
            case k4 => rfl
            case k7 => with_unfolding_all rfl
            intro t21
            k_steps
            unfold Stopped
            refine' sl_cut (s := ⟨_, _, _, _, _⟩) (l := sent n wl) (a := st) (r := (tn / 7 + 2) % 4) ?k1 ?k2 ?k3 ?k4 ?k5 hst3 (r4 _) (Al7_sent hwA) ?k7 ?_ ?k8 ?k9
            case k1 => k_asm
            case k2 => k_asm
            case k3 => rfl
            case k4 => rfl
            case k5 => rfl
            case k7 => exact Nat.le_trans hWl (by decide)
            case k8 => with_unfolding_all rfl
            case k9 => intro _; with_unfolding_all rfl
            intro h10 t22 k22 w1 hf3 hf6 hfA F10 N10
            k_steps
            unfold Stopped
            refine add_S lit_l rfl (app1_len hw18) ?_
            intro t23 k23 _
            k_steps
            unfold Stopped
            refine' sl_cut (s := ⟨_, _, _, _, _⟩) (l := [10] ++ wl) (a := bg) (r := (tn / 11 + 1) % 3) ?k1 ?k2 ?k3 ?k4 ?k5 (app1_ge hbg3) (r3 _) (app1_al hwA) ?k7 ?_ ?k8 ?k9
            case k1 => k_asm
            case k2 => k_asm
            case k3 => rfl
            case k4 => rfl
            case k5 => rfl
            case k7 => exact app1_le hw18
            case k8 => with_unfolding_all rfl
            case k9 => intro _; with_unfolding_all rfl
            intro h11 t24 k24 w2 hs3 hs6 hsA2 F11 N11
            k_steps
            unfold Stopped
            rename News _ _ _ _ => NZ
            have hcS : s1.heap.objs.size + 1 + 1 + 1 ≠ 104 := Nat.ne_of_gt (Nat.lt_succ_of_lt (Nat.lt_succ_of_lt (Nat.lt_succ_of_lt l0)))
            have hc5 : D5 ≠ 104 := apart NZ (by k_mem : (D5, listOf lvs.toArray 0) ∈ _) (by k_mem : (104, tabObj #[]) ∈ _) fun e => by injection e with e1; cases e1
            have hc6 : D6 ≠ 104 := apart NZ (by k_mem : (D6, listOf zs3.toArray zs3.length) ∈ _) (by k_mem : (104, tabObj #[]) ∈ _) fun e => by injection e with e1; cases e1
            have hmsA : ∀ x ∈ lettersOf wl, x.length ≤ 1000 ∧ ∀ c ∈ x, Al c := fun x hx => ⟨Nat.le_trans (hlok x hx).1 (by decide), fun c hc => Al7_Al ((hlok x hx).2 c hc)⟩
            have NY : News (ghostOf s1.heap [(106, 104)]) s1.heap.objs.size _ ((104, tabObj #[]) :: ([] ++ [(D5, listOf lvs.toArray 0), (D6, listOf zs3.toArray zs3.length), (s1.heap.objs.size + 1 + 1 + 1, oS)])) := fun q hq => by
              simp only [List.nil_append, List.mem_cons, List.not_mem_nil, or_false] at hq
              rcases hq with rfl | rfl | rfl | rfl
              · exact NZ _ (by k_mem)
              · exact NZ _ (by k_mem)
              · exact NZ _ (by k_mem)
              · exact NZ _ (by k_mem)
            clear NZ
            have hP1 : ∀ q ∈ ([] : List (Addr × Obj)) ++ [(D5, listOf lvs.toArray 0), (D6, listOf zs3.toArray zs3.length), (s1.heap.objs.size + 1 + 1 + 1, oS)], q.1 ≠ 104 := fun q hq => by
              simp only [List.nil_append, List.mem_cons, List.not_mem_nil, or_false] at hq
              rcases hq with rfl | rfl | rfl
              · exact hc5
              · exact hc6
              · exact hcS
            refine' Con.use (wit_con w9 [(D5, listOf lvs.toArray 0), (D6, listOf zs3.toArray zs3.length), (s1.heap.objs.size + 1 + 1 + 1, oS)] w1 _ _ n D5 D6 lvs zs3 0 zs3.length (lettersOf wl) hf3 hf6 (fun c hc => Al7_Al (hfA c hc)) (fun c hc => Al7_z (hfA c hc)) hn1 hn3 (.head _) (.tail _ (.head _)) hSl hI5 hmsA (Nat.le_trans hl19 (by decide)) #[] [] (.inl ⟨rfl, rfl⟩) hP1) ?k1 ?k2 ?k3 ?k4 ?k5 ?k6 ?k7 ?k8 ?_
            case k4 => k_asm
            case k1 => k_asm
            case k2 => k_asm
            case k3 => k_asm
            case k5 => k_asm
            case k6 => rfl
            case k7 => ktr_room
            case k8 => ktr_units
            intro ps1 ex1 h12 tk12 hT1 hx1 F12 N12
            have N13 : News (ghostOf s1.heap [(106, 104)]) s1.heap.objs.size h12 ((s1.heap.objs.size + 1 + 1 + 1, oS) :: (104, tabObj ps1) :: (ex1 ++ [(D5, listOf lvs.toArray 0), (D6, listOf zs3.toArray zs3.length), (s1.heap.objs.size + 1 + 1 + 1, oS)])) := fun q hq => by
              rcases List.mem_cons.mp hq with rfl | hq
              · exact N12 _ (.tail _ (List.mem_append_right _ (.tail _ (.tail _ (.head _)))))
              · exact N12 q hq
            clear N12 NY
            have hP2 : ∀ q ∈ ex1 ++ [(D5, listOf lvs.toArray 0), (D6, listOf zs3.toArray zs3.length), (s1.heap.objs.size + 1 + 1 + 1, oS)], q.1 ≠ 104 := fun q hq => by
              rcases List.mem_append.mp hq with hq | hq
              · exact hx1 q hq
              · exact hP1 q hq
            show wpAny _ _ _ _ _ _
            k_steps
            unfold Stopped
            refine' Con.use (Con.over (wit_con w9 [(D5, listOf lvs.toArray 0), (D6, listOf zs3.toArray zs3.length), (s1.heap.objs.size + 1 + 1 + 1, oS)] w2 _ _ n D5 D6 lvs zs3 0 zs3.length (lettersOf wl) hs3 hs6 (fun c hc => Al7_Al (hsA2 c hc)) (fun c hc => Al7_z (hsA2 c hc)) hn1 hn3 (.head _) (.tail _ (.head _)) hSl hI5 hmsA (Nat.le_trans hl19 (by decide)) ps1 ex1 hT1 hP2) ?ov (Nat.le_refl _) (Nat.le_refl _) fun _ _ _ _ _ r => r) ?k1 ?k2 ?k3 ?k4 ?k5 ?k6 ?k7 ?k8 ?_
            case k4 => k_asm
            case ov => exact fun q hq => .tail _ hq
            case k1 => k_asm
            case k2 => k_asm
            case k3 => k_asm
            case k5 => k_asm
            case k6 => rfl
            case k7 => ktr_room
            case k8 => ktr_units
            intro ps2 ex2 h13 tk13 hT2 hx2 F13 N14
            k_steps
end Mine

end
theorem PySem.Challenge.cw_sc0024_01_holds : PySem.Challenge.rw_sc0024_01.Holds :=
  Mine.law_holds
