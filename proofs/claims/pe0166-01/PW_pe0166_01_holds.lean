import PyProof.Rows.All
import Wide.All
import OpenK.AllK
import Wide.FinOn
import PySem.Challenge.RW_pe0166_01
set_option Elab.async false
set_option compiler.extract_closed false
namespace Mine
section
/- the plain law: no program in sight -/

/-- the text's signs -/
noncomputable def signs8 : List Nat := [61, 42, 46, 45, 62, 47, 60, 97]
noncomputable def Alph (u : List Nat) : Prop := ∀ c ∈ u, c ∈ signs8
theorem Alph.sub {u v : List Nat} (h : Alph u) (hs : ∀ c ∈ v, c ∈ u) : Alph v := fun c hc => h c (hs c hc)
theorem Alph.drop {u : List Nat} (h : Alph u) (n : Nat) : Alph (u.drop n) := h.sub fun _ hc => List.mem_of_mem_drop hc
theorem Alph.take {u : List Nat} (h : Alph u) (n : Nat) : Alph (u.take n) := h.sub fun _ hc => List.mem_of_mem_take hc
theorem Alph.append {u v : List Nat} (h : Alph u) (k : Alph v) : Alph (u ++ v) := fun c hc => (List.mem_append.mp hc).elim (h c) (k c)

/-- the kinds of the pieces -/
noncomputable def kdT : List (List Nat × Int) := [([61], 22), ([61, 61], 27), ([46], 23), ([46, 46, 46], 52), ([45], 15), ([45, 62], 51), ([45, 61], 37), ([42], 16), ([42, 42], 35), ([42, 61], 38), ([42, 42, 61], 46), ([47], 17), ([47, 47], 47), ([47, 61], 39), ([47, 47, 61], 48), ([60], 20), ([60, 60], 33), ([60, 61], 29), ([60, 60, 61], 44), ([62], 21), ([62, 62], 34), ([62, 61], 30), ([62, 62, 61], 45)]
noncomputable def kd (u : List Nat) : Option Int := (kdT.find? fun p => decide (p.1 = u)).map (·.2)

/-- the first piece: its kind, its size -/
noncomputable def pc (u : List Nat) : Int × Nat :=
  match kd (u.take 3) with
  | some k => (k, (u.take 3).length)
  | none => match kd (u.take 2) with
    | some k => (k, (u.take 2).length)
    | none => match kd (u.take 1) with
      | some k => (k, (u.take 1).length)
      | none => (256 + (u.headD 0 : Nat), 1)

theorem pc_take (u : List Nat) : pc u = pc (u.take 3) := by
  unfold pc
  cases u with
  | nil => rfl
  | cons a u => cases u with
    | nil => rfl
    | cons b u => cases u with
      | nil => rfl
      | cons c u => rfl

theorem pc_size (u : List Nat) (h : u ≠ []) : 1 ≤ (pc u).2 ∧ (pc u).2 ≤ u.length ∧ (pc u).2 ≤ 3 := by
  have hl : 1 ≤ u.length := by cases u with | nil => exact absurd rfl h | cons a r => simp
  unfold pc
  split
  · rw [List.length_take]; omega
  · split
    · rw [List.length_take]; omega
    · split
      · rw [List.length_take]; omega
      · exact ⟨Nat.le_refl _, hl, by omega⟩

/-- the marks of a text from a place on -/
noncomputable def mf (u : List Nat) (p : Nat) : List (Int × Int) :=
  match u with
  | [] => [((p : Int), 0)]
  | c :: r => ((p : Int), (pc (c :: r)).1) :: mf ((c :: r).drop (pc (c :: r)).2) (p + (pc (c :: r)).2)
termination_by u.length
decreasing_by
  have := pc_size (c :: r) (by simp)
  simp only [List.length_drop, List.length_cons] at this ⊢
  omega

theorem mf_nil (p : Nat) : mf [] p = [((p : Int), 0)] := by rw [mf]
theorem mf_ne {u : List Nat} (h : u ≠ []) (p : Nat) : mf u p = ((p : Int), (pc u).1) :: mf (u.drop (pc u).2) (p + (pc u).2) := by
  cases u with
  | nil => exact absurd rfl h
  | cons c r => rw [mf]

/-- induction along the pieces -/
theorem mf_ind {P : List Nat → Nat → Prop} (h0 : ∀ p, P [] p) (h1 : ∀ u p, u ≠ [] → P (u.drop (pc u).2) (p + (pc u).2) → P u p) : ∀ u p, P u p := by
  intro u
  have : ∀ n, ∀ u : List Nat, u.length ≤ n → ∀ p, P u p := by
    intro n
    induction n with
    | zero => intro u hu p; have : u = [] := List.length_eq_zero_iff.mp (by omega); subst this; exact h0 p
    | succ n ih =>
      intro u hu p
      by_cases hn : u = []
      · subst hn; exact h0 p
      · refine h1 u p hn (ih _ ?_ _)
        have := pc_size u hn
        rw [List.length_drop]; omega
  exact this u.length u (Nat.le_refl _)

theorem mf_ge : ∀ (u : List Nat) (p : Nat), ∀ x ∈ mf u p, (p : Int) ≤ x.1 ∧ x.1 ≤ p + u.length := by
  apply mf_ind
  · intro p x hx; rw [mf_nil] at hx; simp at hx; subst hx; simp
  · intro u p hu ih x hx
    rw [mf_ne hu] at hx
    have := pc_size u hu
    rcases List.mem_cons.mp hx with rfl | hx
    · simp; omega
    · have := ih x hx
      rw [List.length_drop] at this
      omega
theorem mf_sorted : ∀ u p, (mf u p).Pairwise (·.1 < ·.1) := by
  apply mf_ind
  · intro p; rw [mf_nil]; simp
  · intro u p hu ih
    rw [mf_ne hu, List.pairwise_cons]
    refine ⟨fun x hx => ?_, ih⟩
    have := mf_ge _ _ x hx
    have := pc_size u hu
    simp only; omega
theorem mf_len : ∀ u p, (mf u p).length ≤ u.length + 1 ∧ 1 ≤ (mf u p).length := by
  apply mf_ind
  · intro p; rw [mf_nil]; simp
  · intro u p hu ih
    have := pc_size u hu
    rw [mf_ne hu, List.length_cons]
    rw [List.length_drop] at ih
    omega
theorem mf_head (u : List Nat) (p : Nat) : ∃ k, (mf u p)[0]? = some ((p : Int), k) := by
  by_cases h : u = []
  · subst h; rw [mf_nil]; exact ⟨0, rfl⟩
  · rw [mf_ne h]; exact ⟨_, rfl⟩
/-- the end's mark is there -/
theorem mf_end : ∀ u p, (((p + u.length : Nat) : Int), (0 : Int)) ∈ mf u p := by
  apply mf_ind
  · intro p; rw [mf_nil]; simp
  · intro u p hu ih
    have := pc_size u hu
    rw [mf_ne hu]
    refine List.mem_cons_of_mem _ ?_
    rw [List.length_drop] at ih
    have e : p + (pc u).2 + (u.length - (pc u).2) = p + u.length := by omega
    rw [e] at ih; exact ih

theorem mf_shift : ∀ (u : List Nat) (p : Nat), ∀ (p' : Nat) (sh : Int), (p : Int) + sh = p' → (mf u p).map (fun x => (x.1 + sh, x.2)) = mf u p' := by
  apply mf_ind
  · intro p p' sh h; rw [mf_nil, mf_nil]; simp [h]
  · intro u p hu ih p' sh h
    rw [mf_ne hu, mf_ne hu p', List.map_cons, ih (p' + (pc u).2) sh (by omega), h]

/-- from a mark on -/
theorem mf_drop : ∀ (u : List Nat) (p : Nat), ∀ (i : Nat) (q k : Int), (mf u p)[i]? = some (q, k) → ∃ q' : Nat, q = q' ∧ p ≤ q' ∧ q' ≤ p + u.length ∧ (mf u p).drop i = mf (u.drop (q' - p)) q' := by
  apply mf_ind
  · intro p i q k h
    rw [mf_nil] at h ⊢
    cases i with
    | zero => simp at h; exact ⟨p, h.1.symm, Nat.le_refl _, by simp, by simp [mf_nil]⟩
    | succ i => simp at h
  · intro u p hu ih i q k h
    have hs := pc_size u hu
    cases i with
    | zero =>
      rw [mf_ne hu] at h
      simp at h
      exact ⟨p, h.1.symm, Nat.le_refl _, by omega, by simp⟩
    | succ i =>
      rw [mf_ne hu] at h ⊢
      simp only [List.getElem?_cons_succ] at h
      obtain ⟨q', h1, h2, h3, h4⟩ := ih i q k h
      rw [List.length_drop] at h3
      refine ⟨q', h1, by omega, by omega, ?_⟩
      rw [List.drop_succ_cons, h4, List.drop_drop]
      congr 2; omega

/-- what lies three signs ahead of the change stays -/
theorem mf_ahead (place : Nat) : ∀ (u : List Nat) (p : Nat), ∀ u' : List Nat, p ≤ place → place ≤ p + u.length → u.take (place - p) = u'.take (place - p) →
    ∃ (q : Nat) (k : Int), (mf u p)[((mf u p).filter fun x => x.1 ≤ (place : Int) - 3).length]? = some ((q : Int), k) ∧ p ≤ q ∧ q ≤ place ∧ mf u' p = (mf u p).take ((mf u p).filter fun x => x.1 ≤ (place : Int) - 3).length ++ mf (u'.drop (q - p)) q := by
  have far : ∀ (u : List Nat) (p : Nat) (u' : List Nat), p ≤ place → (place : Int) - 3 < p → ∃ (q : Nat) (k : Int), (mf u p)[((mf u p).filter fun x => x.1 ≤ (place : Int) - 3).length]? = some ((q : Int), k) ∧ p ≤ q ∧ q ≤ place ∧
      mf u' p = (mf u p).take ((mf u p).filter fun x => x.1 ≤ (place : Int) - 3).length ++ mf (u'.drop (q - p)) q := by
    intro u p u' hp h
    have e : (mf u p).filter (fun x => x.1 ≤ (place : Int) - 3) = [] := by
      rw [List.filter_eq_nil_iff]
      intro x hx
      have := mf_ge u p x hx
      simp only [decide_eq_true_eq]; omega
    rw [e]
    obtain ⟨k, hk⟩ := mf_head u p
    exact ⟨p, k, by simpa using hk, Nat.le_refl _, hp, by simp⟩
  apply mf_ind
  · intro p u' h1 h2 h3
    simp only [List.length_nil, Nat.add_zero] at h2
    exact far [] p u' h1 (by omega)
  · intro u p hu ih u' h1 h2 h3
    by_cases hn : (place : Int) - 3 < p
    · exact far u p u' h1 hn
    · have hd : 3 ≤ place - p := by omega
      have h30 : u.take 3 = u'.take 3 := by
        have := congrArg (List.take 3) h3
        rw [List.take_take, List.take_take, Nat.min_eq_left hd] at this
        exact this
      have hpc : pc u' = pc u := by rw [pc_take u', ← h30, ← pc_take]
      have hs := pc_size u hu
      have hu' : u' ≠ [] := by
        intro e; subst e
        have : u.take 3 = [] := by simpa using h30
        rw [List.take_eq_nil_iff] at this
        rcases this with h | h
        · omega
        · exact hu h
      have hz : p + (pc u).2 ≤ place := by omega
      obtain ⟨q, k, a1, a2, a3, a4⟩ := ih (u'.drop (pc u).2) hz (by rw [List.length_drop]; omega) (by
        have := congrArg (List.drop (pc u).2) h3
        rw [List.drop_take, List.drop_take] at this
        have e : place - p - (pc u).2 = place - (p + (pc u).2) := by omega
        rw [e] at this; exact this)
      refine ⟨q, k, ?_, by omega, a3, ?_⟩
      · rw [mf_ne hu, List.filter_cons_of_pos (by simp; omega), List.length_cons, List.getElem?_cons_succ]; exact a1
      · rw [mf_ne hu' p, mf_ne hu p, List.filter_cons_of_pos (by simp; omega), List.length_cons, List.take_succ_cons, hpc, a4, List.cons_append]
        congr 3
        rw [List.drop_drop]; congr 1; omega

theorem mf_step {x : List Nat} {p : Nat} (h : p < x.length) : mf (x.drop p) p = ((p : Int), (pc (x.drop p)).1) :: mf (x.drop (p + (pc (x.drop p)).2)) (p + (pc (x.drop p)).2) := by
  have hne : x.drop p ≠ [] := by
    intro e
    have := congrArg List.length e
    simp at this; omega
  rw [mf_ne hne, List.drop_drop]
theorem pc_le {x : List Nat} {p : Nat} (h : p < x.length) : 1 ≤ (pc (x.drop p)).2 ∧ p + (pc (x.drop p)).2 ≤ x.length := by
  have hne : x.drop p ≠ [] := by
    intro e
    have := congrArg List.length e
    simp at this; omega
  have := pc_size (x.drop p) hne
  rw [List.length_drop] at this
  omega
end
section

/-- the text behind an edit -/
noncomputable def ap (x : List Nat) (place gone : Nat) (put : List Nat) : List Nat := x.take place ++ put ++ x.drop (place + gone)
/-- how many marks lie three signs ahead -/
noncomputable def ahead (ms : List (Int × Int)) (place : Nat) : Nat := (ms.filter fun p => p.1 ≤ (place : Int) - 3).length
/-- does a new mark lie at the edit, or has it no old fellow -/
noncomputable def cnd (ms : List (Int × Int)) (place gone come : Nat) (q : Int) : Bool := decide (q < (place : Int) + come) || !(ms.map (·.1)).contains (q - come + gone)
noncomputable def upto (ms : List (Int × Int)) (place gone come : Nat) (ns : List (Int × Int)) : Nat := (ns.filter fun p => cnd ms place gone come p.1).length
structure LeftOk (ms : List (Int × Int)) (lo k : Nat) (tgt : Int) : Prop where
  fro : lo ≤ k
  upt : k ≤ ms.length
  below : ∀ i p, ms[i]? = some p → lo ≤ i → i < k → p.1 < tgt
  above : ∀ i p, ms[i]? = some p → k ≤ i → tgt ≤ p.1

theorem take_filter {c : Int} : ∀ {ms : List (Int × Int)}, ms.Pairwise (·.1 < ·.1) → ms.take (ms.filter fun p => p.1 ≤ c).length = ms.filter fun p => p.1 ≤ c
  | [], _ => rfl
  | p :: r, h => by
    rw [List.pairwise_cons] at h
    by_cases hp : p.1 ≤ c
    · rw [List.filter_cons_of_pos (by simpa using hp), List.length_cons, List.take_succ_cons, take_filter h.2]
    · have : (p :: r).filter (fun p => p.1 ≤ c) = [] := by
        rw [List.filter_eq_nil_iff]
        intro q hq
        rcases List.mem_cons.mp hq with rfl | hq
        · simpa using hp
        · have := h.1 q hq
          simp only [decide_eq_true_eq]; omega
      rw [this]; rfl
theorem ahead_le (ms : List (Int × Int)) (place : Nat) : ahead ms place ≤ ms.length := List.length_filter_le _ _
theorem ahead_lt {ms : List (Int × Int)} (h : ms.Pairwise (·.1 < ·.1)) {place : Nat} {i : Nat} {p : Int × Int} (hi : ms[i]? = some p) (hl : i < ahead ms place) : p.1 ≤ (place : Int) - 3 := by
  have e := take_filter (c := (place : Int) - 3) h
  have hm : p ∈ ms.take (ahead ms place) := by
    refine List.mem_of_getElem? (i := i) ?_
    rw [List.getElem?_take, if_pos hl]; exact hi
  unfold ahead at hm
  rw [e] at hm
  have := (List.mem_filter.mp hm).2
  simpa using this

section
variable {x put : List Nat} {place gone : Nat} (hp : place + gone ≤ x.length)
include hp
theorem ap_len : (ap x place gone put).length + gone = x.length + put.length := by
  unfold ap; simp only [List.length_append, List.length_take, List.length_drop]; omega
theorem ap_take : x.take place = (ap x place gone put).take place := by
  unfold ap
  rw [List.append_assoc, List.take_append_of_le_length (by rw [List.length_take]; omega), List.take_take, Nat.min_self]
theorem ap_drop {q : Nat} (hq : place + put.length ≤ q) : (ap x place gone put).drop q = x.drop (q - put.length + gone) := by
  unfold ap
  have hl : (x.take place ++ put).length = place + put.length := by rw [List.length_append, List.length_take]; omega
  rw [List.drop_append, List.drop_eq_nil_of_le (by omega), List.nil_append, List.drop_drop, hl]
  congr 1; omega
/-- where the edit's first mark lies -/
theorem mend_start : ∃ (q : Nat) (k : Int), (mf x 0)[ahead (mf x 0) place]? = some ((q : Int), k) ∧ q ≤ place ∧ mf (ap x place gone put) 0 = (mf x 0).take (ahead (mf x 0) place) ++ mf ((ap x place gone put).drop q) q := by
  obtain ⟨q, k, h1, h2, h3, h4⟩ := mf_ahead place x 0 (ap x place gone put) (Nat.zero_le _) (by omega) (by rw [Nat.sub_zero]; exact ap_take hp)
  exact ⟨q, k, h1, h3, by rw [Nat.sub_zero] at h4; exact h4⟩

variable {spot last : Nat} (hl : LeftOk (mf x 0) (ahead (mf x 0) place) last ((spot : Int) - ((put.length : Int) - gone)))
include hl
theorem mend_last (h1 : place + put.length ≤ spot) (h2 : spot ≤ (ap x place gone put).length) : last < (mf x 0).length := by
  have hlen := ap_len (put := put) hp
  by_cases h : last < (mf x 0).length
  · exact h
  · exfalso
    have hend := mf_end x 0
    obtain ⟨i, hi⟩ := List.getElem?_of_mem hend
    have hil : i < (mf x 0).length := by
      by_cases h : i < (mf x 0).length
      · exact h
      · rw [List.getElem?_eq_none (by omega)] at hi; cases hi
    by_cases hf : i < ahead (mf x 0) place
    · have := ahead_lt (mf_sorted x 0) hi hf
      simp only [Nat.zero_add] at this; omega
    · have := hl.below i _ hi (by omega) (by omega)
      simp only [Nat.zero_add] at this; omega
/-- within the loop there is a sign to read -/
theorem mend_lt (h2 : spot ≤ (ap x place gone put).length) {b : Int × Int}
    (hc : spot < place + put.length ∨ ((mf x 0)[last]? = some b ∧ b.1 ≠ (spot : Int) - ((put.length : Int) - gone))) : spot < (ap x place gone put).length := by
  have hlen := ap_len (put := put) hp
  rcases hc with h | ⟨h, hne⟩
  · omega
  · by_cases hs : spot < (ap x place gone put).length
    · exact hs
    · exfalso
      have e : spot = (ap x place gone put).length := by omega
      have h3 := hl.above last b h (Nat.le_refl _)
      have h4 := (mf_ge x 0 b (List.mem_of_getElem? h)).2
      apply hne; omega
/-- a read mark is one that was to be read -/
theorem mend_new {b : Int × Int} (hc : spot < place + put.length ∨ (place + put.length ≤ spot ∧ (mf x 0)[last]? = some b ∧ b.1 ≠ (spot : Int) - ((put.length : Int) - gone))) : cnd (mf x 0) place gone put.length spot = true := by
  unfold cnd
  rw [Bool.or_eq_true]
  rcases hc with h | ⟨h0, h, hne⟩
  · exact .inl (by simp; omega)
  · refine .inr ?_
    rw [Bool.not_eq_true', Bool.eq_false_iff]
    intro hcon
    have hm : ((spot : Int) - put.length + gone) ∈ (mf x 0).map (·.1) := by simpa using hcon
    obtain ⟨p, hpm, hpe⟩ := List.mem_map.mp hm
    obtain ⟨i, hi⟩ := List.getElem?_of_mem hpm
    by_cases hf : i < ahead (mf x 0) place
    · have := ahead_lt (mf_sorted x 0) hi hf
      omega
    · by_cases hk : i < last
      · have := hl.below i p hi (by omega) hk
        omega
      · have h3 := hl.above last b h (Nat.le_refl _)
        have : b.1 ≤ p.1 := by
          rcases Nat.lt_or_ge last i with hlt | hge
          · have hil : i < (mf x 0).length := by
              by_cases h : i < (mf x 0).length
              · exact h
              · rw [List.getElem?_eq_none (by omega)] at hi; cases hi
            have := List.pairwise_iff_getElem.mp (mf_sorted x 0) last i (by omega) hil hlt
            rw [List.getElem?_eq_getElem (by omega)] at h hi
            rw [← Option.some.inj h, ← Option.some.inj hi]
            exact Int.le_of_lt this
          · have : i = last := by omega
            subst this; rw [hi] at h; cases h; exact Int.le_refl _
        omega

omit hl in
theorem mend_moved (h1 : place + put.length ≤ spot) {b : Int × Int} (hb : (mf x 0)[last]? = some b) (he : b.1 = (spot : Int) - ((put.length : Int) - gone)) :
    ((mf x 0).drop last).map (fun p => (p.1 + ((put.length : Int) - gone), p.2)) = mf ((ap x place gone put).drop spot) spot := by
  obtain ⟨q, h2, _, _, h5⟩ := mf_drop x 0 last b.1 b.2 hb
  rw [h5, ap_drop hp h1, Nat.sub_zero]
  have : q = spot - put.length + gone := by omega
  rw [← this]
  exact mf_shift _ _ _ _ (by omega)
omit hl in
theorem mend_count (h1 : place + put.length ≤ spot) {b : Int × Int} (hb : (mf x 0)[last]? = some b) (he : b.1 = (spot : Int) - ((put.length : Int) - gone)) {fr : List (Int × Int)}
    (hm : mf (ap x place gone put) 0 = (mf x 0).take (ahead (mf x 0) place) ++ fr ++ mf ((ap x place gone put).drop spot) spot) (hfr : ∀ p ∈ fr, cnd (mf x 0) place gone put.length p.1 = true) :
    upto (mf x 0) place gone put.length (mf (ap x place gone put) 0) = ahead (mf x 0) place + fr.length := by
  unfold upto
  rw [hm, List.filter_append, List.filter_append]
  have e1 : ((mf x 0).take (ahead (mf x 0) place)).filter (fun p => cnd (mf x 0) place gone put.length p.1) = (mf x 0).take (ahead (mf x 0) place) := by
    rw [List.filter_eq_self]
    intro p hpm
    obtain ⟨i, hi⟩ := List.getElem?_of_mem hpm
    rw [List.getElem?_take] at hi
    split at hi
    · rename_i hlt
      have := ahead_lt (mf_sorted x 0) hi hlt
      unfold cnd
      rw [Bool.or_eq_true]
      exact .inl (by simp; omega)
    · cases hi
  have e2 : fr.filter (fun p => cnd (mf x 0) place gone put.length p.1) = fr := List.filter_eq_self.mpr hfr
  have e3 : (mf ((ap x place gone put).drop spot) spot).filter (fun p => cnd (mf x 0) place gone put.length p.1) = [] := by
    rw [List.filter_eq_nil_iff]
    intro p hpm
    have hge := (mf_ge _ _ p hpm).1
    rw [← mend_moved hp h1 hb he] at hpm
    obtain ⟨q, hq, rfl⟩ := List.mem_map.mp hpm
    have hq' := List.mem_of_mem_drop hq
    unfold cnd
    simp only [Bool.or_eq_true, decide_eq_true_eq, Bool.not_eq_true', not_or]
    refine ⟨by omega, ?_⟩
    have : (q.1 + ((put.length : Int) - gone) - put.length + gone) = q.1 := by omega
    rw [this]
    have hmem : q.1 ∈ (mf x 0).map (·.1) := List.mem_map.mpr ⟨q, hq', rfl⟩
    simp only [Bool.not_eq_false]
    simpa using hmem
  rw [e1, e2, e3, List.append_nil, List.length_append, List.length_take, Nat.min_eq_left (ahead_le _ _)]
end
end
section
theorem ap_alph {x put : List Nat} {place gone : Nat} (hx : Alph x) (hp : Alph put) : Alph (ap x place gone put) := ((hx.take _).append hp).append (hx.drop _)

theorem kd_mem {l : List Nat} {k : Int} (h : kd l = some k) : (l, k) ∈ kdT := by
  obtain ⟨p, hp, rfl⟩ := Option.map_eq_some_iff.mp h
  have h1 := List.mem_of_find?_eq_some hp
  have h2 := List.find?_some hp
  have : p.1 = l := of_decide_eq_true h2
  subst this; exact h1
theorem kdT_ok : (kdT.all fun p => decide (0 < p.2 ∧ p.2 < 256 ∧ 97 ∉ p.1)) = true := by decide
theorem kd_some {l : List Nat} {k : Int} (h : kd l = some k) : 0 < k ∧ k < 256 ∧ 97 ∉ l := of_decide_eq_true (List.all_eq_true.mp kdT_ok _ (kd_mem h))
theorem kd_one_ok : (signs8.all fun c => (kd [c]).isSome || decide (c = 97)) = true := by decide
theorem kd_one {c : Nat} (hc : c ∈ signs8) (h : kd [c] = none) : c = 97 := by
  have := List.all_eq_true.mp kd_one_ok c hc
  rw [h] at this
  exact of_decide_eq_true this
theorem pc_kind {u : List Nat} (hu : u ≠ []) (ha : Alph u) : (pc u).1 ≠ 0 ∧ ∀ j, j < (pc u).2 → (256 ≤ (pc u).1 ↔ u[j]? = some 97) := by
  have some_case : ∀ (m : Nat) (k : Int), kd (u.take m) = some k → k ≠ 0 ∧ ∀ j, j < (u.take m).length → (256 ≤ k ↔ u[j]? = some 97) := by
    intro m k h
    obtain ⟨h1, h2, h3⟩ := kd_some h
    refine ⟨by omega, fun j hj => ⟨fun h => by omega, fun h => ?_⟩⟩
    exfalso
    apply h3
    refine List.mem_of_getElem? (i := j) ?_
    rw [List.getElem?_take, if_pos (by rw [List.length_take] at hj; omega)]; exact h
  unfold pc
  split
  · rename_i k h; exact some_case 3 k h
  · split
    · rename_i k h; exact some_case 2 k h
    · split
      · rename_i k h; exact some_case 1 k h
      · rename_i h
        cases u with
        | nil => exact absurd rfl hu
        | cons c r =>
          have hc := kd_one (ha c List.mem_cons_self) (by simpa using h)
          subst hc
          refine ⟨by simp, fun j hj => ?_⟩
          have : j = 0 := by simp at hj; omega
          subst this
          simp
/-- the piece that holds a place -/
theorem mf_holds : ∀ (u : List Nat) (p : Nat), Alph u → ∀ i : Nat, p ≤ i → i ≤ p + u.length →
    1 ≤ ((mf u p).filter fun x => x.1 ≤ (i : Int)).length ∧ ∃ (st k : Int), (mf u p)[((mf u p).filter fun x => x.1 ≤ (i : Int)).length - 1]? = some (st, k) ∧ (k = 0 ↔ i = p + u.length) ∧ (256 ≤ k ↔ u[i - p]? = some 97) := by
  apply mf_ind
  · intro p _ i h1 h2
    simp only [List.length_nil, Nat.add_zero] at h2
    have : i = p := by omega
    subst this
    rw [mf_nil]
    refine ⟨by simp, (i : Int), 0, by simp, by simp, by simp⟩
  · intro u p hu ih ha i h1 h2
    have hs := pc_size u hu
    have hk := pc_kind hu ha
    rw [mf_ne hu, List.filter_cons_of_pos (by simp; omega), List.length_cons]
    by_cases hi : i < p + (pc u).2
    · have e : (mf (u.drop (pc u).2) (p + (pc u).2)).filter (fun x => x.1 ≤ (i : Int)) = [] := by
        rw [List.filter_eq_nil_iff]
        intro x hx
        have := mf_ge _ _ x hx
        simp only [decide_eq_true_eq]; omega
      rw [e]
      refine ⟨by simp, (p : Int), (pc u).1, by simp, ⟨fun h => absurd h hk.1, fun h => by omega⟩, hk.2 (i - p) (by omega)⟩
    · obtain ⟨a1, st, k, a2, a3, a4⟩ := ih (ha.drop _) i (by omega) (by rw [List.length_drop]; omega)
      refine ⟨by omega, st, k, ?_, ?_, ?_⟩
      · rw [Nat.add_sub_cancel]
        have : ((mf (u.drop (pc u).2) (p + (pc u).2)).filter fun x => x.1 ≤ (i : Int)).length = ((mf (u.drop (pc u).2) (p + (pc u).2)).filter fun x => x.1 ≤ (i : Int)).length - 1 + 1 := by omega
        rw [this, List.getElem?_cons_succ]; exact a2
      · rw [a3, List.length_drop]; omega
      · rw [a4, List.getElem?_drop]
        have : (pc u).2 + (i - (p + (pc u).2)) = i - p := by omega
        rw [this]

abbrev Edit := Nat × Nat × List Nat
/-- the text behind all the edits -/
noncomputable def endT (es : List Edit) : List Nat := es.foldl (fun t e => ap t e.1 e.2.1 e.2.2) []
noncomputable def EdOk (es : List Edit) : Prop := es.length ≤ 20 ∧ ∀ i e, es[i]? = some e → e.1 + e.2.1 ≤ (endT (es.take i)).length ∧ Alph e.2.2 ∧ e.2.2.length ≤ 9
theorem endT_succ {es : List Edit} {i : Nat} {e : Edit} (h : es[i]? = some e) : endT (es.take (i + 1)) = ap (endT (es.take i)) e.1 e.2.1 e.2.2 := by
  unfold endT
  rw [List.take_add_one, h, Option.toList_some, List.foldl_append]; rfl
theorem endT_ok {es : List Edit} (h : EdOk es) : ∀ i, i ≤ es.length → Alph (endT (es.take i)) ∧ (endT (es.take i)).length ≤ 9 * i := by
  intro i
  induction i with
  | zero => intro _; exact ⟨fun c hc => (nomatch hc), Nat.le_refl _⟩
  | succ i ih =>
    intro hi
    obtain ⟨h1, h2⟩ := ih (by omega)
    have he : es[i]? = some es[i] := List.getElem?_eq_getElem (by omega)
    obtain ⟨a1, a2, a3⟩ := h.2 i _ he
    rw [endT_succ he]
    refine ⟨ap_alph h1 a2, ?_⟩
    have := ap_len (put := (es[i]).2.2) a1
    omega
end
section
/-- the size of a piece, by its shape -/
noncomputable def sh0 (u : List Nat) : Nat := if u.take 3 = [46, 46, 46] then 3 else if [[42, 42], [47, 47], [60, 60], [62, 62], [45, 62]].contains (u.take 2) then 2 else 1
noncomputable def shB (u : List Nat) : Bool := [42, 47, 60, 62, 45, 61].contains (u.headD 0) && !decide (u.take 2 = [45, 62]) && decide ((u.drop (sh0 u)).take 1 = [61])
noncomputable def sh (u : List Nat) : Nat := sh0 u + (if shB u then 1 else 0)
noncomputable def kt (l : List Nat) : Option Int := if l = [97] then some 353 else kd l
theorem sh0_take (u : List Nat) : sh0 u = sh0 (u.take 3) := by
  match u with
  | [] | [_] | [_, _] | _ :: _ :: _ :: _ => rfl
theorem sh_take (u : List Nat) : sh u = sh (u.take 3) := by
  match u with
  | [] | [_] | [_, _] => rfl
  | a :: b :: c :: r =>
    show sh (a :: b :: c :: r) = sh [a, b, c]
    have e0 : sh0 (a :: b :: c :: r) = sh0 [a, b, c] := rfl
    have hb : shB (a :: b :: c :: r) = shB [a, b, c] := by
      unfold shB
      rw [e0]
      have h123 : sh0 [a, b, c] = 1 ∨ sh0 [a, b, c] = 2 ∨ (sh0 [a, b, c] = 3 ∧ a = 46) := by
        unfold sh0
        split
        · rename_i h; simp at h; exact .inr (.inr ⟨rfl, h.1⟩)
        · split
          · exact .inr (.inl rfl)
          · exact .inl rfl
      rcases h123 with h | h | ⟨h, rfl⟩
      · rw [h]; rfl
      · rw [h]; rfl
      · rfl
    unfold sh
    rw [e0, hb]
noncomputable def good (v : List Nat) : Bool := decide (sh v = (pc v).2) && decide (kt (v.take (sh v)) = some (pc v).1)
theorem good1 : (signs8.all fun a => good [a]) = true := by decide +kernel
theorem good2 : (signs8.all fun a => signs8.all fun b => good [a, b]) = true := by decide +kernel
theorem good3 : (signs8.all fun a => signs8.all fun b => signs8.all fun c => good [a, b, c]) = true := by decide +kernel
theorem sh_pc {u : List Nat} (hu : u ≠ []) (ha : Alph u) : sh u = (pc u).2 ∧ kt (u.take (sh u)) = some (pc u).1 := by
  have hg : good (u.take 3) = true := by
    match u, hu, ha with
    | [a], _, ha => exact List.all_eq_true.mp good1 a (ha a (by simp))
    | [a, b], _, ha => exact List.all_eq_true.mp (List.all_eq_true.mp good2 a (ha a (by simp))) b (ha b (by simp))
    | a :: b :: c :: r, _, ha => exact List.all_eq_true.mp (List.all_eq_true.mp (List.all_eq_true.mp good3 a (ha a (by simp))) b (ha b (by simp))) c (ha c (by simp))
  unfold good at hg
  rw [Bool.and_eq_true, decide_eq_true_eq, decide_eq_true_eq, ← sh_take, ← pc_take] at hg
  have h3 : sh u ≤ 3 := by
    rw [hg.1]; exact (pc_size u hu).2.2
  rw [List.take_take, Nat.min_eq_left h3] at hg
  exact hg
theorem kt_cases {l : List Nat} {k : Int} (h : kt l = some k) {P : List Nat → Int → Prop} (c0 : P [97] 353) (c1 : ∀ p ∈ kdT, P p.1 p.2) : P l k := by
  unfold kt at h
  split at h
  · rename_i e; subst e; cases h; exact c0
  · exact c1 _ (kd_mem h)
end
section
open PySem PySem.W PyProof.Rows

/-- a ghost: what is frozen -/
abbrev Gh := Addr → Option Obj
abbrev Never : Value → Shared → Prop := fun _ _ => False
noncomputable def lst (vs : List Value) (n : Nat) : Obj := { cls := .type "list", data := .seq vs.toArray n }
noncomputable def Gh.set (g : Gh) (a : Addr) (o : Obj) : Gh := fun b => if b = a then some o else g b
noncomputable def Le (g h : Gh) : Prop := ∀ a o, g a = some o → h a = some o
theorem Le.refl (g : Gh) : Le g g := fun _ _ e => e
theorem Le.trans {a b c : Gh} (x : Le a b) (y : Le b c) : Le a c := fun _ _ e => y _ _ (x _ _ e)
theorem Le.set {g : Gh} {a : Addr} {o : Obj} (h : g a = none) : Le g (g.set a o) := fun b o' e => by
  unfold Gh.set
  by_cases hb : b = a
  · subst hb; rw [h] at e; cases e
  · rw [if_neg hb]; exact e

/-- the cells that are the frame's own (a comprehension reads its frame's) -/
noncomputable def pcs (env : Env) : List Addr := if env.func.isSome then env.cells.map (·.2) else []
noncomputable def prv (env : Env) (own : List (Addr × Obj)) : List Addr := env.locals :: (pcs env ++ own.map (·.1))
theorem mem_pcs {env : Env} {a : Addr} (h : a ∈ pcs env) : env.func.isSome = true ∧ ∃ p ∈ env.cells, p.2 = a := by
  unfold pcs at h
  split at h
  · rename_i hf
    obtain ⟨p, hp, e⟩ := List.mem_map.mp h
    exact ⟨hf, p, hp, e⟩
  · cases h
theorem pcs_mem {env : Env} {p : Str × Addr} (hf : env.func.isSome = true) (hp : p ∈ env.cells) : p.2 ∈ pcs env := by
  unfold pcs; rw [if_pos hf]; exact List.mem_map.mpr ⟨p, hp, rfl⟩

structure St (s₀ : Shared) (g₀ g : Gh) (env : Env) (vars : Str → Option Value) (own : List (Addr × Obj)) (s : Shared) : Prop where
  gens : s.gens = s₀.gens
  os : s.os = s₀.os
  ns : ∃ m, s.heap.Ns env.locals m ∧ ∀ x, env.kindOf x = some .local → m x = vars x
  cell : ∀ x c, (x, c) ∈ env.cells → s.heap.IsCell c (vars x)
  nodup : (prv env own).Nodup
  base : ∀ a o, s₀.heap.get? a = some o → s.heap.get? a = some o
  keep : ∀ a o, g a = some o → s.heap.get? a = some o
  priv : ∀ a ∈ prv env own, g a = none ∧ s₀.heap.get? a = none
  own : ∀ p ∈ own, s.heap.get? p.1 = some p.2
  mono : Le g₀ g
  gnew : ∀ a o, g a = some o → s₀.heap.get? a = none ∨ g₀ a = some o
  ck : ∀ p ∈ env.cells, env.kindOf p.1 = some .cell
  cn : (env.cells.map (·.1)).Nodup
  cfro : env.func = none → ∀ p ∈ env.cells, ∃ o, s₀.heap.get? p.2 = some o

section
variable {s₀ s s' : Shared} {g₀ g : Gh} {env : Env} {vars : Str → Option Value} {own : List (Addr × Obj)}

/-- the state grows: nothing that stood is changed -/
theorem St.grow (S : St s₀ g₀ g env vars own s) (hg : s'.gens = s.gens) (ho : s'.os = s.os) (hk : ∀ a o, s.heap.get? a = some o → s'.heap.get? a = some o) :
    St s₀ g₀ g env vars own s' where
  gens := hg.trans S.gens
  os := ho.trans S.os
  ns := let ⟨m, h, e⟩ := S.ns; ⟨m, h.keeps hk, e⟩
  cell := fun x c h => (S.cell x c h).keeps hk
  nodup := S.nodup
  base := fun a o e => hk _ _ (S.base a o e)
  keep := fun a o e => hk _ _ (S.keep a o e)
  priv := S.priv
  own := fun p hp => hk _ _ (S.own p hp)
  mono := S.mono
  gnew := S.gnew
  ck := S.ck
  cn := S.cn
  cfro := S.cfro

theorem St.toks (S : St s₀ g₀ g env vars own s) (n : Nat) : St s₀ g₀ g env vars own { s with toks := n } := S.grow rfl rfl fun _ _ e => e
theorem St.heap (S : St s₀ g₀ g env vars own s) {h : Heap} (hk : ∀ a o, s.heap.get? a = some o → h.get? a = some o) : St s₀ g₀ g env vars own { s with heap := h } := S.grow rfl rfl hk
theorem St.push (S : St s₀ g₀ g env vars own s) (o : Obj) : St s₀ g₀ g env vars own { s with heap := s.heap.push o } := S.heap fun _ _ e => Heap.get?_push_of_some _ e

theorem St.prvLive (S : St s₀ g₀ g env vars own s) {a : Addr} (ha : a ∈ prv env own) : ∃ o, s.heap.get? a = some o := by
  rcases List.mem_cons.mp ha with rfl | ha
  · obtain ⟨m, ⟨o, _, _, h, _⟩, _⟩ := S.ns; exact ⟨o, h⟩
  · rcases List.mem_append.mp ha with ha | ha
    · obtain ⟨_, p, hp, rfl⟩ := mem_pcs ha
      obtain ⟨o, h, _⟩ := S.cell p.1 p.2 hp; exact ⟨o, h⟩
    · obtain ⟨p, hp, rfl⟩ := List.mem_map.mp ha
      exact ⟨_, S.own p hp⟩

theorem St.freshG (S : St s₀ g₀ g env vars own s) {a : Addr} (ha : s.heap.get? a = none) : g a = none := by
  cases e : g a with
  | none => rfl
  | some o => rw [S.keep _ _ e] at ha; cases ha
theorem St.freshB (S : St s₀ g₀ g env vars own s) {a : Addr} (ha : s.heap.get? a = none) : s₀.heap.get? a = none := by
  cases e : s₀.heap.get? a with
  | none => rfl
  | some o => rw [S.base _ _ e] at ha; cases ha
theorem St.freshP (S : St s₀ g₀ g env vars own s) {a : Addr} (ha : s.heap.get? a = none) : a ∉ prv env own := fun h => by
  obtain ⟨o, e⟩ := S.prvLive h
  rw [e] at ha; cases ha

/-- a cell is neither the locals nor a private thing -/
theorem St.cne (S : St s₀ g₀ g env vars own s) {x : Str} {c a : Addr} (hc : (x, c) ∈ env.cells) (ha : a = env.locals ∨ a ∈ own.map (·.1)) : c ≠ a := by
  intro e
  subst e
  have hin : c ∈ prv env own := by
    unfold prv
    rcases ha with rfl | ha
    · exact List.mem_cons_self
    · exact List.mem_cons_of_mem _ (List.mem_append.mpr (.inr ha))
  cases hf : env.func with
  | none =>
    obtain ⟨o, e⟩ := S.cfro hf _ hc
    have := (S.priv c hin).2
    rw [e] at this; cases this
  | some fa =>
    have hp : c ∈ pcs env := pcs_mem (p := (x, c)) (by rw [hf]; rfl) hc
    have hnd := S.nodup
    unfold prv at hnd
    rw [List.nodup_cons] at hnd
    rcases ha with rfl | ha
    · exact hnd.1 (List.mem_append.mpr (.inl hp))
    · exact (List.nodup_append.mp hnd.2).2.2 c hp c ha rfl

/-- a change of one private thing that is no cell and not the locals -/
theorem St.one (S : St s₀ g₀ g env vars own s) {a : Addr} {own' : List (Addr × Obj)} (hg : s'.gens = s.gens) (ho : s'.os = s.os)
    (hmap : own'.map (·.1) = own.map (·.1)) (hown : ∀ p ∈ own', s'.heap.get? p.1 = some p.2) (hmem : a ∈ own.map (·.1))
    (hk : ∀ b o, b ≠ a → s.heap.get? b = some o → s'.heap.get? b = some o) : St s₀ g₀ g env vars own' s' := by
  have hnd := S.nodup
  have hprv : prv env own' = prv env own := by unfold prv; rw [hmap]
  have hin : a ∈ prv env own := List.mem_cons_of_mem _ (List.mem_append.mpr (.inr hmem))
  have hL : env.locals ≠ a := by
    unfold prv at hnd
    intro e; exact (List.nodup_cons.mp hnd).1 (e ▸ List.mem_append.mpr (.inr hmem))
  have hC : ∀ x c, (x, c) ∈ env.cells → c ≠ a := fun x c h => S.cne h (.inr hmem)
  have hp := S.priv a hin
  refine ⟨hg.trans S.gens, ho.trans S.os, ?_, ?_, hprv ▸ S.nodup, ?_, ?_, hprv ▸ S.priv, hown, S.mono, S.gnew, S.ck, S.cn, S.cfro⟩
  · obtain ⟨m, h, e⟩ := S.ns
    obtain ⟨o, es, ep, h1, r⟩ := h
    exact ⟨m, ⟨o, es, ep, hk _ _ hL h1, r⟩, e⟩
  · intro x c h
    obtain ⟨o, h1, h2⟩ := S.cell x c h
    exact ⟨o, hk _ _ (hC x c h) h1, h2⟩
  · intro b o e
    exact hk _ _ (fun e' => by rw [e', hp.2] at e; cases e) (S.base _ _ e)
  · intro b o e
    exact hk _ _ (fun e' => by rw [e', hp.1] at e; cases e) (S.keep _ _ e)

/-- a new private thing -/
theorem St.add (S : St s₀ g₀ g env vars own s) {a : Addr} {o : Obj} (hg : s'.gens = s.gens) (ho : s'.os = s.os) (ha : s.heap.get? a = none) (ha' : s'.heap.get? a = some o)
    (hk : ∀ b o, s.heap.get? b = some o → s'.heap.get? b = some o) : St s₀ g₀ g env vars ((a, o) :: own) s' := by
  have hP := S.freshP ha
  have T := S.grow hg ho hk
  refine ⟨T.gens, T.os, T.ns, T.cell, ?_, T.base, T.keep, ?_, ?_, T.mono, T.gnew, T.ck, T.cn, T.cfro⟩
  · have hnd := S.nodup
    unfold prv at hnd hP ⊢
    simp only [List.map_cons]
    rw [List.nodup_cons] at hnd ⊢
    simp only [List.mem_cons, List.mem_append, not_or] at hP hnd ⊢
    refine ⟨⟨hnd.1.1, fun e => hP.1 e.symm, hnd.1.2⟩, ?_⟩
    rw [List.nodup_append] at hnd ⊢
    refine ⟨hnd.2.1, List.nodup_cons.mpr ⟨hP.2.2, hnd.2.2.1⟩, fun x hx y hy => ?_⟩
    rcases List.mem_cons.mp hy with rfl | hy
    · intro e; exact hP.2.1 (e ▸ hx)
    · exact hnd.2.2.2 x hx y hy
  · intro b hb
    unfold prv at hb
    simp only [List.map_cons, List.mem_cons, List.mem_append] at hb
    by_cases e : b = a
    · subst e; exact ⟨S.freshG ha, S.freshB ha⟩
    · apply S.priv; unfold prv; simp only [List.mem_cons, List.mem_append]
      rcases hb with h | h | h | h
      · exact .inl h
      · exact .inr (.inl h)
      · exact absurd h e
      · exact .inr (.inr h)
  · intro p hp
    rcases List.mem_cons.mp hp with rfl | hp
    · exact ha'
    · exact T.own p hp

theorem St.push1 (S : St s₀ g₀ g env vars own s) (o : Obj) (hf : o.isFreed = false := by rfl) : St s₀ g₀ g env vars ((s.heap.objs.size, o) :: own) { s with heap := s.heap.push o } := by
  refine S.add rfl rfl ?_ (Heap.get?_push_size _ hf) fun _ _ e => Heap.get?_push_of_some _ e
  cases e : s.heap.get? s.heap.objs.size with
  | none => rfl
  | some o => exact absurd (Heap.lt_size e) (Nat.lt_irrefl _)

/-- what is private no longer -/
theorem St.drop (S : St s₀ g₀ g env vars own s) {own' : List (Addr × Obj)} (h : own'.Sublist own) : St s₀ g₀ g env vars own' s where
  gens := S.gens
  os := S.os
  ns := S.ns
  cell := S.cell
  nodup := by
    have := S.nodup
    unfold prv at this ⊢
    exact List.Nodup.sublist (List.Sublist.cons_cons _ (List.Sublist.append (List.Sublist.refl _) (h.map _))) this
  base := S.base
  keep := S.keep
  priv := fun a ha => S.priv a (by
    unfold prv at ha ⊢
    exact (List.Sublist.cons_cons _ (List.Sublist.append (List.Sublist.refl _) (h.map _))).subset ha)
  own := fun p hp => S.own p (h.subset hp)
  mono := S.mono
  gnew := S.gnew
  ck := S.ck
  cn := S.cn
  cfro := S.cfro

/-- a private thing is frozen -/
theorem St.freeze {a : Addr} {o : Obj} (S : St s₀ g₀ g env vars ((a, o) :: own) s) : St s₀ g₀ (g.set a o) env vars own s := by
  have T := S.drop (List.Sublist.cons (a, o) (List.Sublist.refl own))
  have hin : a ∈ prv env ((a, o) :: own) := List.mem_cons_of_mem _ (List.mem_append.mpr (.inr (List.mem_cons_self)))
  have hp := S.priv a hin
  refine ⟨T.gens, T.os, T.ns, T.cell, T.nodup, T.base, ?_, ?_, T.own, Le.trans T.mono (Le.set hp.1), ?_, T.ck, T.cn, T.cfro⟩
  · intro b o' e
    unfold Gh.set at e
    by_cases hb : b = a
    · subst hb; rw [if_pos rfl] at e; cases e; exact S.own (b, o) List.mem_cons_self
    · rw [if_neg hb] at e; exact T.keep _ _ e
  · intro b hb
    refine ⟨?_, (T.priv b hb).2⟩
    unfold Gh.set
    have : b ≠ a := by
      intro e; subst e
      have hnd := S.nodup
      unfold prv at hnd hb
      simp only [List.map_cons, List.nodup_cons, List.mem_cons, List.mem_append, not_or, List.nodup_append] at hnd hb
      rcases hb with h | h | h
      · exact hnd.1.2.1 h.symm
      · exact hnd.2.2.2 b h b (.inl rfl) rfl
      · exact hnd.2.2.1.1 h
    rw [if_neg this]; exact (T.priv b hb).1
  · intro b o' e
    unfold Gh.set at e
    by_cases hb : b = a
    · subst hb; exact .inl hp.2
    · rw [if_neg hb] at e; exact S.gnew _ _ e

theorem St.pushG (S : St s₀ g₀ g env vars own s) (o : Obj) (hf : o.isFreed = false := by rfl) : St s₀ g₀ (g.set s.heap.objs.size o) env vars own { s with heap := s.heap.push o } := (S.push1 o hf).freeze

theorem St.sizeG (S : St s₀ g₀ g env vars own s) : g s.heap.objs.size = none := S.freshG (by
  cases e : s.heap.get? s.heap.objs.size with
  | none => rfl
  | some o => exact absurd (Heap.lt_size e) (Nat.lt_irrefl _))
theorem St.sizeLe (S : St s₀ g₀ g env vars own s) {o : Obj} : Le g (g.set s.heap.objs.size o) := Le.set S.sizeG

end

mutual
inductive Rep (g : Gh) : Value → PyData → Prop
  | none : Rep g .none .none
  | bool (b) : Rep g (.bool b) (.bool b)
  | int (i t) : Rep g (.int i t) (.int i)
  | str (x t) : Rep g (.str x t) (.str x)
  | list {a vs n ds} : g a = some (lst vs n) → Reps g vs ds → Rep g (.ref a) (.list ds)
inductive Reps (g : Gh) : List Value → List PyData → Prop
  | nil : Reps g [] []
  | cons {v vs d ds} : Rep g v d → Reps g vs ds → Reps g (v :: vs) (d :: ds)
end
mutual
theorem Rep.mono {g g' : Gh} (hg : Le g g') : ∀ {v d}, Rep g v d → Rep g' v d
  | _, _, .none => .none
  | _, _, .bool b => .bool b
  | _, _, .int i t => .int i t
  | _, _, .str x t => .str x t
  | _, _, .list h r => .list (hg _ _ h) (Reps.mono hg r)
theorem Reps.mono {g g' : Gh} (hg : Le g g') : ∀ {vs ds}, Reps g vs ds → Reps g' vs ds
  | _, _, .nil => .nil
  | _, _, .cons h r => .cons (Rep.mono hg h) (Reps.mono hg r)
end
mutual
theorem Rep.reads {g : Gh} {h : Heap} (hg : Le g h.get?) : ∀ {v d}, Rep g v d → ∃ as, Reads h v d as
  | _, _, .none => ⟨_, .none⟩
  | _, _, .bool b => ⟨_, .bool b⟩
  | _, _, .int i t => ⟨_, .int i t⟩
  | _, _, .str x t => ⟨_, .str x t⟩
  | _, _, .list (vs := vs) e r => let ⟨_, q⟩ := Reps.reads hg r; ⟨_, .list (hg _ _ e) rfl rfl (by simpa using q)⟩
theorem Reps.reads {g : Gh} {h : Heap} (hg : Le g h.get?) : ∀ {vs ds}, Reps g vs ds → ∃ as, ReadsAll h vs ds as
  | _, _, .nil => ⟨_, .nil⟩
  | _, _, .cons q r => let ⟨_, x⟩ := Rep.reads hg q; let ⟨_, y⟩ := Reps.reads hg r; ⟨_, .cons x y⟩
end
section
variable {g : Gh} {v : Value} {vs ws : List Value} {d : PyData} {ds es : List PyData}
theorem Reps.length : ∀ {vs : List Value} {ds : List PyData}, Reps g vs ds → vs.length = ds.length
  | _, _, .nil => rfl
  | _, _, .cons _ r => by simp [Reps.length r]
theorem Reps.append : ∀ {vs : List Value} {ds : List PyData}, Reps g vs ds → Reps g ws es → Reps g (vs ++ ws) (ds ++ es)
  | _, _, .nil, h => h
  | _, _, .cons q r, h => .cons q (Reps.append r h)
theorem Reps.one (h : Rep g v d) : Reps g [v] [d] := .cons h .nil
theorem Reps.get : ∀ {vs : List Value} {ds : List PyData}, Reps g vs ds → ∀ {i : Nat} {d : PyData}, ds[i]? = some d → ∃ v, vs[i]? = some v ∧ Rep g v d
  | _, _, .nil, i, d, h => by simp at h
  | _, _, .cons q r, 0, d, h => by simp at h; subst h; exact ⟨_, rfl, q⟩
  | _, _, .cons q r, i + 1, d, h => by simp at h; simpa using Reps.get r h
theorem Reps.getV : ∀ {vs : List Value} {ds : List PyData}, Reps g vs ds → ∀ {i : Nat} {v : Value}, vs[i]? = some v → ∃ d, ds[i]? = some d ∧ Rep g v d
  | _, _, .nil, i, d, h => by simp at h
  | _, _, .cons q r, 0, d, h => by simp at h; subst h; exact ⟨_, rfl, q⟩
  | _, _, .cons q r, i + 1, d, h => by simp at h; simpa using Reps.getV r h
theorem Reps.take : ∀ {vs : List Value} {ds : List PyData}, Reps g vs ds → ∀ n, Reps g (vs.take n) (ds.take n)
  | _, _, .nil, n => by simpa using Reps.nil
  | _, _, .cons q r, 0 => .nil
  | _, _, .cons q r, n + 1 => .cons q (Reps.take r n)
theorem Reps.drop : ∀ {vs : List Value} {ds : List PyData}, Reps g vs ds → ∀ n, Reps g (vs.drop n) (ds.drop n)
  | _, _, .nil, n => by simpa using Reps.nil
  | _, _, .cons q r, 0 => .cons q r
  | _, _, .cons q r, n + 1 => Reps.drop r n
theorem Rep.list_inv (h : Rep g v (.list ds)) : ∃ a vs n, v = .ref a ∧ g a = some (lst vs n) ∧ Reps g vs ds := by
  cases h with
  | list e r => exact ⟨_, _, _, rfl, e, r⟩
theorem Rep.int_inv {i : Int} (h : Rep g v (.int i)) : ∃ t, v = .int i t := by cases h; exact ⟨_, rfl⟩
theorem Rep.str_inv {x : Str} (h : Rep g v (.str x)) : ∃ t, v = .str x t := by cases h; exact ⟨_, rfl⟩
theorem Rep.bool_inv {b : Bool} (h : Rep g v (.bool b)) : v = .bool b := by cases h; rfl
end
theorem lst_isList {h : Heap} {a : Addr} {vs : List Value} {n : Nat} (e : h.get? a = some (lst vs n)) : h.IsList a vs.toArray := ⟨_, e, rfl, n, rfl⟩
theorem lst_plain {h : Heap} {a : Addr} {vs : List Value} {n : Nat} (e : h.get? a = some (lst vs n)) : h.PlainList a vs.toArray := ⟨n, e⟩
end
section
open PySem PySem.W PyProof.Rows

noncomputable def V (l : List (Str × Value)) : Str → Option Value := fun x => l.lookup x
theorem V_cons (x : Str) (v : Value) (l : List (Str × Value)) (y : Str) : V ((x, v) :: l) y = if y = x then some v else V l y := by
  unfold V
  rw [List.lookup_cons]
  by_cases h : y = x
  · subst h; simp
  · have : (y == x) = false := by simpa using h
    rw [this, if_neg h]

noncomputable def NsG (g : Gh) (a : Addr) (m : Str → Option Value) : Prop := ∃ o es ep, g a = some o ∧ o.data = .dict es ep ∧ StrKeys es ∧ ∀ name, nsFind es name = m name
theorem NsG.at {g : Gh} {a : Addr} {m : Str → Option Value} {h : Heap} (x : NsG g a m) (hk : Le g h.get?) : h.Ns a m := let ⟨o, es, ep, e, r⟩ := x; ⟨o, es, ep, hk _ _ e, r⟩
theorem NsG.mono {g g' : Gh} {a : Addr} {m : Str → Option Value} (x : NsG g a m) (hk : Le g g') : NsG g' a m := let ⟨o, es, ep, e, r⟩ := x; ⟨o, es, ep, hk _ _ e, r⟩

noncomputable def CodeG (g : Gh) (cd : Value) (q : Str) : Prop := ∃ c o vs t, cd = .ref c ∧ g c = some o ∧ o.data = .fields vs ∧ vs[1]? = some (.str q t)
theorem CodeG.at {g : Gh} {cd : Value} {q : Str} {h : Heap} (x : CodeG g cd q) (hk : Le g h.get?) : h.CodeRec cd q := let ⟨c, o, vs, t, e, e', r⟩ := x; ⟨c, o, vs, t, e, hk _ _ e', r⟩
theorem CodeG.mono {g g' : Gh} {cd : Value} {q : Str} (x : CodeG g cd q) (hk : Le g g') : CodeG g' cd q := let ⟨c, o, vs, t, e, e', r⟩ := x; ⟨c, o, vs, t, e, hk _ _ e', r⟩

/-- the top, as far as every call leans on it -/
structure Top0 (g : Gh) (mg : Str → Option Value) : Prop where
  gl : NsG g mainGlobals mg
  bl : ∃ mb, NsG g builtinsNs mb ∧ ∀ x : Str, x ≠ "__name__" → mb x = bootBuiltins x
  nolimit : ∃ mc, NsG g cStatics mc ∧ mc "sys.recursionlimit" = none
theorem Top0.mono {g g' : Gh} {mg : Str → Option Value} (x : Top0 g mg) (hk : Le g g') : Top0 g' mg :=
  ⟨x.gl.mono hk, let ⟨mb, h, r⟩ := x.bl; ⟨mb, h.mono hk, r⟩, let ⟨mc, h, r⟩ := x.nolimit; ⟨mc, h.mono hk, r⟩⟩
theorem Top0.lim {g : Gh} {mg : Str → Option Value} {h : Heap} (x : Top0 g mg) (hk : Le g h.get?) : h.NoLimit := let ⟨mc, h, r⟩ := x.nolimit; ⟨mc, h.at hk, r⟩

/-- a def of the text, at an address -/
structure FnG (g : Gh) (a : Addr) (name : Str) (params : Arguments) (body : List Stmt) (scope : Scope) (dV kV : Value) (doc pm : Value) (an : Option Addr) (cd ct : Value) : Prop where
  o : ∃ oc od sl, g a = some ⟨oc, od, .func (fnOf name name params body scope dV kV doc pm an cd ct), sl⟩
  code : CodeG g cd name
theorem FnG.mono {g g' : Gh} {a : Addr} {name : Str} {params : Arguments} {body : List Stmt} {scope : Scope} {dV kV doc pm : Value} {an : Option Addr} {cd ct : Value} (x : FnG g a name params body scope dV kV doc pm an cd ct) (hk : Le g g') :
    FnG g' a name params body scope dV kV doc pm an cd ct := ⟨let ⟨oc, od, sl, e⟩ := x.o; ⟨oc, od, sl, hk _ _ e⟩, x.code.mono hk⟩

noncomputable def Room (n : Nat) (A : Around) : Prop := A.handled = none ∧ A.depth + n < recursionLimit ∧ A.units + 10 * n + 300 < cLine
theorem Room.deeper {n : Nat} {A : Around} {env : Env} (h : Room (n + 1) A) : Room n (A.deeper env) := by
  obtain ⟨h1, h2, h3⟩ := h
  refine ⟨h1, ?_, ?_⟩
  · show A.depth + 1 + n < _; omega
  · show A.units + 3 + 10 * n + 300 < _; omega
theorem Room.le {n k : Nat} {A : Around} (h : Room n A) (hk : k ≤ n) : Room k A := ⟨h.1, by have := h.2.1; omega, by have := h.2.2; omega⟩

theorem bindL_eq {kindOf : Str → Option NameKind} {x : Str} (hx : kindOf x = some .local) : ∀ (binds : List (Str × Value)) (m : Str → Option Value),
    bindL kindOf binds m x = ((V binds.reverse x).or (m x))
  | [], m => by simp [bindL, V]
  | (n, v) :: r, m => by
    rw [bindL, bindL_eq hx r]
    have e : V ((n, v) :: r).reverse x = (V r.reverse x).or (if x = n then some v else none) := by
      unfold V
      rw [List.reverse_cons, List.lookup_append]
      congr 1
      by_cases h : x = n
      · subst h; simp
      · have : (x == n) = false := by simpa using h
        simp [List.lookup_cons, this, h]
    rw [e]
    by_cases h : x = n
    · subst h; rw [if_pos hx, if_pos rfl, if_pos rfl]; cases V r.reverse x <;> rfl
    · rw [if_neg h]
      by_cases hn : kindOf n = some .local
      · rw [if_pos hn, if_neg h]; cases V r.reverse x <;> rfl
      · rw [if_neg hn]; cases V r.reverse x <;> rfl
theorem bindC_eq {kindOf : Str → Option NameKind} {x : Str} (hx : kindOf x ≠ some .local) : ∀ (binds : List (Str × Value)) (m : Str → Option Value),
    bindC kindOf binds m x = ((V binds.reverse x).or (m x))
  | [], m => by simp [bindC, V]
  | (n, v) :: r, m => by
    rw [bindC, bindC_eq hx r]
    have e : V ((n, v) :: r).reverse x = (V r.reverse x).or (if x = n then some v else none) := by
      unfold V
      rw [List.reverse_cons, List.lookup_append]
      congr 1
      by_cases h : x = n
      · subst h; simp
      · have : (x == n) = false := by simpa using h
        simp [List.lookup_cons, this, h]
    rw [e]
    by_cases h : x = n
    · subst h; rw [if_neg hx, if_pos rfl, if_pos rfl]; cases V r.reverse x <;> rfl
    · rw [if_neg h]
      by_cases hn : kindOf n = some .local
      · rw [if_pos hn]; cases V r.reverse x <;> rfl
      · rw [if_neg hn, if_neg h]; cases V r.reverse x <;> rfl

theorem cellsFrom_kind : ∀ (names : List (Str × NameKind)) (n : Nat) (acc : List (Str × Addr)) (p : Str × Addr), p ∈ cellsFrom n names acc → p ∈ acc ∨ (p.1, NameKind.cell) ∈ names
  | [], _, _, p, h => .inl h
  | (y, k) :: r, n, acc, p, h => by
    unfold cellsFrom at h
    split at h
    · rename_i hk
      have hk' : k = .cell := by simpa using hk
      subst hk'
      rcases cellsFrom_kind r (n + 1) _ p h with h | h
      · rcases List.mem_cons.mp h with rfl | h
        · exact .inr (List.mem_cons_self)
        · exact .inl h
      · exact .inr (List.mem_cons_of_mem _ h)
    · rcases cellsFrom_kind r n acc p h with h | h
      · exact .inl h
      · exact .inr (List.mem_cons_of_mem _ h)
theorem cellsFrom_fst : ∀ (names : List (Str × NameKind)) (n k : Nat) (acc acc' : List (Str × Addr)), acc.map (·.1) = acc'.map (·.1) → (cellsFrom n names acc).map (·.1) = (cellsFrom k names acc').map (·.1)
  | [], _, _, _, _, h => h
  | (y, kd) :: r, n, k, acc, acc', h => by
    unfold cellsFrom
    split
    · exact cellsFrom_fst r _ _ _ _ (by simp [h])
    · exact cellsFrom_fst r _ _ _ _ h

/-- what a scope must be for a call -/
structure ScopeOk (scope : Scope) : Prop where
  co : scope.isCoroutine = false
  gen : scope.isGenerator = false
  kind : scope.kind = .function
  cells : ∀ x ∈ scope.names, x.2 = .cell → scope.names.lookup x.1 = some .cell
  nodup : ((cellsFrom 0 scope.names []).map (·.1)).Nodup

section
variable {prog : Program} {w : World} {A : Around} {E : Value → Shared → Prop} {s : Shared}

/-- what is wanted behind a turn, a statement, a call: the walk carries its name alone, not the whole -/
noncomputable def Cont (Q R : Flow → Shared → Prop) : Prop := ∀ f s, Q f s → R f s
theorem Cont.go {Q R : Flow → Shared → Prop} {f : Flow} {s : Shared} (h : Cont Q R) (hq : Q f s) : R f s := h f s hq
theorem execs_gen {env : Env} {st : Stmt} {rest : List Stmt} {Q : Flow → Shared → Prop} (h : ∀ R : Flow → Shared → Prop, Cont (fun f s₁ => match f with | .next => wpAny (model prog w) A (execs rest env) Q E s₁ | f => Q f s₁) R → wpAny (model prog w) A (exec st env) R E s) :
    wpAny (model prog w) A (execs (st :: rest) env) Q E s := wpAny_execs_cons (h _ fun _ _ x => by cases ‹Flow› <;> exact x)

abbrev envC (name : Str) (scope : Scope) (L a : Addr) (cd : Value) : Env := envX name scope L a cd (cellsFrom (L + 1) scope.names [])

theorem call_fn {g : Gh} {a : Addr} {name : Str} {params : Arguments} {body : List Stmt} {scope : Scope} {dV kV doc pm : Value} {an : Option Addr} {cd ct : Value} {args : List Value} {kw : List (Str × Value)} {binds : List (Str × Value)} {mg : Str → Option Value} {Q : Value → Shared → Prop}
    (hR : Room 1 A) (hg : Le g s.heap.get?) (T : Top0 g mg) (F : FnG g a name params body scope dV kV doc pm an cd ct) (hs : ScopeOk scope)
    (hbind : BindsTo s (fnOf name name params body scope dV kV doc pm an cd ct) ⟨args, kw⟩ binds)
    (hkind : ∀ n, ∀ x ∈ binds, scope.names.lookup x.1 = some .local ∨ (scope.names.lookup x.1 = some .cell ∧ ((cellsFrom n scope.names []).lookup x.1).isSome = true))
    (h : ∀ L s', St s g g (envC name scope L a cd) (V binds.reverse) [] s' →
      ∀ R : Flow → Shared → Prop, Cont (fun f s'' => Q (match f with | .ret v => v | _ => .none) s'') R → wpAny (model prog w) (A.deeper (envC name scope L a cd)) (execs body (envC name scope L a cd)) R Never s') :
    wpAny (model prog w) A (call (.ref a) args kw) Q E s := by
  obtain ⟨oc, od, sl, ho⟩ := F.o
  have hhd := hR.2.1
  refine wpAny_call ?_
  refine codeAny_call_function (fd := fnOf name name params body scope dV kV doc pm an cd ct) (body := body) (by omega) (hg _ _ ho) rfl hs.co hs.gen rfl (F.code.at hg) (hbind _ _ _ _ ?_)
  refine wpAny_newFunctionEnv_cells hs.kind (hkind _) fun env he s' X => ?_
  obtain ⟨⟨⟨hh, tk, rfl⟩, hns, hkeep, hfr⟩, hcell, hap, hab⟩ := X
  refine ⟨(T.lim hg).keeps hkeep, ?_⟩
  have he' : env = envC name scope s.heap.objs.size a cd := he
  subst he'
  have hnew : ∀ b, s.heap.objs.size ≤ b → s.heap.get? b = none := fun b hb => by
    cases e : s.heap.get? b with
    | none => rfl
    | some o => exact absurd (Heap.lt_size e) (Nat.not_lt.mpr hb)
  have hnewG : ∀ b, s.heap.objs.size ≤ b → g b = none := fun b hb => by
    cases e : g b with
    | none => rfl
    | some o => have := hg _ _ e; rw [hnew b hb] at this; cases this
  have hck : ∀ p ∈ cellsFrom (s.heap.objs.size + 1) scope.names [], scope.names.lookup p.1 = some .cell := fun p hp => by
    rcases cellsFrom_kind _ _ _ _ hp with h | h
    · cases h
    · exact hs.cells _ h rfl
  have hcn : ((cellsFrom (s.heap.objs.size + 1) scope.names []).map (·.1)).Nodup := by
    rw [cellsFrom_fst _ _ 0 _ [] rfl]; exact hs.nodup
  have hlook : ∀ x c, (x, c) ∈ cellsFrom (s.heap.objs.size + 1) scope.names [] → (cellsFrom (s.heap.objs.size + 1) scope.names []).lookup x = some c := by
    intro x c hm
    generalize cellsFrom (s.heap.objs.size + 1) scope.names [] = l at hm hcn
    clear hck hcell hap hab hkind hns
    induction l with
    | nil => cases hm
    | cons q r ih =>
      obtain ⟨y, d⟩ := q
      rw [List.lookup_cons]
      rcases List.mem_cons.mp hm with e | hm'
      · cases e; simp
      · have hne : x ≠ y := by
          intro e; subst e
          exact (List.nodup_cons.mp hcn).1 (List.mem_map.mpr ⟨(x, c), hm', rfl⟩)
        have : (x == y) = false := by simpa using hne
        rw [this]; exact ih hm' (List.nodup_cons.mp hcn).2
  have S : St s g g (envC name scope s.heap.objs.size a cd) (V binds.reverse) [] { s with heap := hh, toks := tk } := by
    refine ⟨rfl, rfl, ⟨_, hns, fun x hx => ?_⟩, fun x c hm => ?_, ?_, hkeep, fun b o e => hkeep _ _ (hg _ _ e), ?_, (fun p hp => absurd hp (by simp)), Le.refl _, (fun b o e => Or.inr e), (fun p hp => hck p hp), hcn, (fun h => nomatch h)⟩
    · rw [bindL_eq hx]; cases V binds.reverse x <;> rfl
    · have := hcell x c (hlook x c hm)
      rw [bindC_eq (by show scope.names.lookup x ≠ _; rw [hck (x, c) hm]; decide)] at this
      have e : (V binds.reverse x).or none = V binds.reverse x := by cases V binds.reverse x <;> rfl
      rw [e] at this; exact this
    · show (s.heap.objs.size :: ((cellsFrom (s.heap.objs.size + 1) scope.names []).map (·.2) ++ ([] : List (Addr × Obj)).map (·.1))).Nodup
      rw [List.nodup_cons]
      constructor
      · intro hm
        simp only [List.map_nil, List.append_nil] at hm
        obtain ⟨p, hp, e⟩ := List.mem_map.mp hm
        exact absurd (hab p.1 p.2 hp) (by rw [e]; exact Nat.lt_irrefl _)
      · simp only [List.map_nil, List.append_nil]
        rw [List.Nodup, List.pairwise_map]
        exact hap
    · intro b hb
      have hlo : s.heap.objs.size ≤ b := by
        have hb : b ∈ s.heap.objs.size :: ((cellsFrom (s.heap.objs.size + 1) scope.names []).map (·.2) ++ ([] : List (Addr × Obj)).map (·.1)) := hb
        rcases List.mem_cons.mp hb with rfl | hb
        · exact hfr
        · simp only [List.map_nil, List.append_nil] at hb
          obtain ⟨p, hp, rfl⟩ := List.mem_map.mp hb
          exact Nat.le_of_lt (Nat.lt_of_le_of_lt hfr (hab p.1 p.2 hp))
      exact ⟨hnewG b hlo, hnew b hlo⟩
  exact codeAny_func (wpAny_mono (h _ _ S _ fun _ _ x => x) (fun _ _ x => x) fun _ _ x => x.elim)
end
end
section
open PySem PySem.W PySem.Calls PyProof.Rows

noncomputable def allObjs (h : Heap) (L : Addr) : List (Addr × Obj) := (List.range h.objs.size).filterMap fun a => if a = L then none else (h.get? a).map (a, ·)
theorem mem_allObjs {h : Heap} {L b : Addr} {o : Obj} (e : h.get? b = some o) (hb : b ≠ L) : (b, o) ∈ allObjs h L := by
  unfold allObjs
  refine List.mem_filterMap.mpr ⟨b, List.mem_range.mpr (Heap.lt_size e), ?_⟩
  rw [if_neg hb, e]; rfl
theorem news_all (h : Heap) (L : Addr) : News {} L h (allObjs h L) := by
  intro p hp
  unfold allObjs at hp
  obtain ⟨b, _, e⟩ := List.mem_filterMap.mp hp
  by_cases hb : b = L
  · rw [if_pos hb] at e; cases e
  · rw [if_neg hb] at e
    cases e' : h.get? b with
    | none => rw [e'] at e; cases e
    | some o => rw [e'] at e; cases e; exact ⟨e', hb, rfl⟩

section
variable {prog : Program} {w : World} {A : Around} {E : Value → Shared → Prop} {s₀ s : Shared} {g₀ g : Gh} {env : Env} {vl : List (Str × Value)} {own : List (Addr × Obj)}

theorem St.le (S : St s₀ g₀ g env (V vl) own s) : Le g s.heap.get? := S.keep

theorem St.fr (S : St s₀ g₀ g env (V vl) own s) : ∃ m, Fr {} env.locals s.heap m ∧ ∀ x, env.kindOf x = some .local → m x = V vl x := by
  obtain ⟨m, h, e⟩ := S.ns
  exact ⟨m, ⟨h, (fun b o e => by cases e), Nat.zero_le _⟩, e⟩

theorem St.ofFr (S : St s₀ g₀ g env (V vl) own s) {m : Str → Option Value} {h' : Heap} {k : Nat} {news : List (Addr × Obj)} (hm : ∀ x, env.kindOf x = some .local → m x = V vl x)
    (F : Fr {} env.locals h' m) (N : News {} env.locals h' news) (hn : ∀ p ∈ allObjs s.heap env.locals, p ∈ news) : St s₀ g₀ g env (V vl) own { s with heap := h', toks := k } := by
  have hk : ∀ b o, b ≠ env.locals → s.heap.get? b = some o → h'.get? b = some o := fun b o hb e => (N _ (hn _ (mem_allObjs e hb))).1
  have hL := S.priv env.locals List.mem_cons_self
  have hnd := S.nodup
  unfold prv at hnd
  rw [List.nodup_cons] at hnd
  refine ⟨S.gens, S.os, ⟨m, F.ns, hm⟩, fun x c hc => ?_, S.nodup, fun b o e => ?_, fun b o e => ?_, S.priv, fun p hp => ?_, S.mono, S.gnew, S.ck, S.cn, S.cfro⟩
  · obtain ⟨o, h1, h2⟩ := S.cell x c hc
    exact ⟨o, hk _ _ (S.cne hc (.inl rfl)) h1, h2⟩
  · exact hk _ _ (fun e' => by rw [e', hL.2] at e; cases e) (S.base _ _ e)
  · exact hk _ _ (fun e' => by rw [e', hL.1] at e; cases e) (S.keep _ _ e)
  · exact hk _ _ (fun e => hnd.1 (List.mem_append.mpr (.inr (List.mem_map.mpr ⟨p, hp, e⟩)))) (S.own p hp)

/-! names -/
theorem r_loc {x : Str} {pos : Pos} {v : Value} {Q : Value → Shared → Prop} (S : St s₀ g₀ g env (V vl) own s) (hl : env.kindOf x = some .local) (hv : V vl x = some v) (h : Q v s)
    (hk : env.scope.kind = .function := by rfl) (hd : (x == ("__debug__" : Str)) = false := by decide) : wpAny (model prog w) A (eval (.Name x pos) env) Q E s :=
  let ⟨_, hn, e⟩ := S.ns; wpAny_Name (wpAny_loadName_local hk hl hn ((e x hl).trans hv) h) hd
theorem r_cel {x : Str} {pos : Pos} {v : Value} {c : Addr} {Q : Value → Shared → Prop} (S : St s₀ g₀ g env (V vl) own s) (hl : env.kindOf x = some .cell) (hc : env.cells.lookup x = some c) (hv : V vl x = some v) (h : Q v s)
    (hk : env.scope.kind = .function := by rfl) (hd : (x == ("__debug__" : Str)) = false := by decide) : wpAny (model prog w) A (eval (.Name x pos) env) Q E s :=
  wpAny_Name (wpAny_loadName_cell hk hl hc (hv ▸ S.cell x c (mem_of_lookup hc)) h) hd
theorem r_ldn {x : Str} {v : Value} {Q : Value → Shared → Prop} (S : St s₀ g₀ g env (V vl) own s) (hl : env.kindOf x = some .local) (hv : V vl x = some v) (h : Q v s)
    (hk : env.scope.kind = .function := by rfl) : wpAny (model prog w) A (loadName env x) Q E s :=
  let ⟨_, hn, e⟩ := S.ns; wpAny_loadName_local hk hl hn ((e x hl).trans hv) h
theorem r_glo {mg : Str → Option Value} {x : Str} {pos : Pos} {v : Value} {Q : Value → Shared → Prop} (S : St s₀ g₀ g env (V vl) own s) (T : Top0 g mg) (hx : env.kindOf x = some .globalImplicit) (hv : mg x = some v) (h : Q v s)
    (hg : env.globals = mainGlobals := by rfl) (hk : env.scope.kind = .function := by rfl) (hd : (x == ("__debug__" : Str)) = false := by decide) : wpAny (model prog w) A (eval (.Name x pos) env) Q E s :=
  Name_function_global hk hx (loadGlobal_global (hg ▸ T.gl.at S.keep) hv h) hd
theorem r_bui {mg : Str → Option Value} {x : Str} {pos : Pos} {v : Value} {Q : Value → Shared → Prop} (S : St s₀ g₀ g env (V vl) own s) (T : Top0 g mg) (hx : env.kindOf x = some .globalImplicit) (hm : mg x = none) (hv : bootBuiltins x = some v) (h : Q v s)
    (hg : env.globals = mainGlobals := by rfl) (hb : env.builtins = builtinsNs := by rfl) (hk : env.scope.kind = .function := by rfl) (hd : (x == ("__debug__" : Str)) = false := by decide) (hn : x ≠ "__name__" := by decide) :
    wpAny (model prog w) A (eval (.Name x pos) env) Q E s :=
  let ⟨_, hb', e⟩ := T.bl; Name_function_global hk hx (loadGlobal_builtin (hg ▸ T.gl.at S.keep) hm (hb ▸ hb'.at S.keep) ((e x hn).trans hv) h) hd

theorem r_sto {x : Str} {v : Value} {Q : Unit → Shared → Prop} (S : St s₀ g₀ g env (V vl) own s) (hl : env.kindOf x = some .local) (h : ∀ s', St s₀ g₀ g env (V ((x, v) :: vl)) own s' → Q () s')
    (hk : env.scope.kind = .function := by rfl) : wpAny (model prog w) A (storeName env x v) Q E s := by
  obtain ⟨m, hn, e⟩ := S.ns
  refine wpAny_storeName_local hl hn (fun h' hn' hs => h _ ?_) (by rw [hk]; rfl)
  have hL := S.priv env.locals List.mem_cons_self
  have hnd := S.nodup
  unfold prv at hnd
  rw [List.nodup_cons] at hnd
  refine ⟨S.gens, S.os, ⟨_, hn', fun y hy => ?_⟩, fun y c hc => ?_, S.nodup, fun b o e => ?_, fun b o e => ?_, S.priv, fun p hp => ?_, S.mono, S.gnew, S.ck, S.cn, S.cfro⟩
  · rw [V_cons]
    by_cases hyx : y = x
    · rw [if_pos hyx, if_pos hyx]
    · rw [if_neg hyx, if_neg hyx]; exact e y hy
  · have hyx : y ≠ x := fun e => by have := S.ck (y, c) hc; rw [e, hl] at this; cases this
    rw [V_cons, if_neg hyx]
    exact (S.cell y c hc).sameBut hs (S.cne hc (.inl rfl))
  · exact (hs.2 b fun e' => by rw [e', hL.2] at e; cases e).trans (S.base _ _ e)
  · exact (hs.2 b fun e' => by rw [e', hL.1] at e; cases e).trans (S.keep _ _ e)
  · exact (hs.2 _ fun e => hnd.1 (List.mem_append.mpr (.inr (List.mem_map.mpr ⟨p, hp, e⟩)))).trans (S.own p hp)

theorem r_stc {x : Str} {v : Value} {c : Addr} {Q : Unit → Shared → Prop} (S : St s₀ g₀ g env (V vl) own s) (hl : env.kindOf x = some .cell) (hc : env.cells.lookup x = some c) (h : ∀ s', St s₀ g₀ g env (V ((x, v) :: vl)) own s' → Q () s')
    (hk : env.scope.kind = .function := by rfl) (hf : env.func.isSome = true := by rfl) : wpAny (model prog w) A (storeName env x v) Q E s := by
  have hm := mem_of_lookup hc
  refine wpAny_storeName_cell hk hl hc (S.cell x c hm) fun h' hn' hs => h _ ?_
  have hcp : c ∈ pcs env := pcs_mem (p := (x, c)) hf hm
  have hin : c ∈ prv env own := List.mem_cons_of_mem _ (List.mem_append.mpr (.inl hcp))
  have hP := S.priv c hin
  have hnd := S.nodup
  unfold prv at hnd
  rw [List.nodup_cons] at hnd
  have hcn := S.cn
  obtain ⟨m, hn, e⟩ := S.ns
  refine ⟨S.gens, S.os, ⟨m, hn.sameBut hs (Ne.symm (S.cne hm (.inl rfl))), fun y hy => ?_⟩, fun y d hd => ?_, S.nodup, fun b o e => ?_, fun b o e => ?_, S.priv, fun p hp => ?_, S.mono, S.gnew, S.ck, S.cn, S.cfro⟩
  · have hyx : y ≠ x := fun e => by rw [e, hl] at hy; cases hy
    rw [V_cons, if_neg hyx]; exact e y hy
  · rw [V_cons]
    by_cases hyx : y = x
    · subst hyx
      rw [if_pos rfl]
      have : d = c := by
        have hnd2 := hcn
        clear hn' hs hP e hn hnd hin hcp hf
        generalize env.cells = l at hm hd hnd2
        clear hcn hc
        induction l with
        | nil => cases hm
        | cons q r ih =>
          rw [List.map_cons, List.nodup_cons] at hnd2
          rcases List.mem_cons.mp hm with e1 | h1 <;> rcases List.mem_cons.mp hd with e2 | h2
          · rw [← e1] at e2; cases e2; rfl
          · exact absurd (List.mem_map.mpr ⟨(y, d), h2, by rw [← e1]⟩) hnd2.1
          · exact absurd (List.mem_map.mpr ⟨(y, c), h1, by rw [← e2]⟩) hnd2.1
          · exact ih h1 h2 hnd2.2
      rw [this]; exact hn'
    · rw [if_neg hyx]
      refine (S.cell y d hd).sameBut hs fun e => hyx ?_
      have hap : (env.cells.map (·.2)).Nodup := by
        have := (List.nodup_append.mp hnd.2).1
        unfold pcs at this; rw [if_pos hf] at this; exact this
      clear hn' hs hP hn hnd hin hcn hcp hf
      subst e
      generalize env.cells = l at hm hd hap
      clear hc
      induction l with
      | nil => cases hm
      | cons q r ih =>
        rw [List.map_cons, List.nodup_cons] at hap
        rcases List.mem_cons.mp hm with e1 | h1 <;> rcases List.mem_cons.mp hd with e2 | h2
        · rw [← e1] at e2; cases e2; rfl
        · exact absurd (List.mem_map.mpr ⟨(y, d), h2, by rw [← e1]⟩) hap.1
        · exact absurd (List.mem_map.mpr ⟨(x, d), h1, by rw [← e2]⟩) hap.1
        · exact ih h1 h2 hap.2
  · exact (hs.2 b fun e' => by rw [e', hP.2] at e; cases e).trans (S.base _ _ e)
  · exact (hs.2 b fun e' => by rw [e', hP.1] at e; cases e).trans (S.keep _ _ e)
  · exact (hs.2 _ (Ne.symm (S.cne hm (.inr (List.mem_map.mpr ⟨p, hp, rfl⟩))))).trans (S.own p hp)

/-! constants, ints -/
theorem r_int {i : Int} {k : Nat} {pos : Pos} {Q : Value → Shared → Prop} (S : St s₀ g₀ g env (V vl) own s) (h : ∀ t s', St s₀ g₀ g env (V vl) own s' → Q (.int i t) s') : wpAny (model prog w) A (eval (.Constant (.int i) k pos) env) Q E s :=
  wpAny_Constant_int (h _ _ (S.toks _))
theorem r_str {x : Str} {k : Nat} {pos : Pos} {Q : Value → Shared → Prop} (S : St s₀ g₀ g env (V vl) own s) (h : ∀ t s', St s₀ g₀ g env (V vl) own s' → Q (.str x t) s') : wpAny (model prog w) A (eval (.Constant (.str x) k pos) env) Q E s :=
  wpAny_Constant_str (h _ _ (S.toks _))
section
variable {a b : Int} {t u : Tok} {Q : Value → Shared → Prop}
theorem r_add (S : St s₀ g₀ g env (V vl) own s) (h : ∀ t s', St s₀ g₀ g env (V vl) own s' → Q (.int (a + b) t) s') : wpAny (model prog w) A (binaryOp .Add (.int a t) (.int b u)) Q E s := PyProof.Rows.add_int (h _ _ (S.toks _))
theorem r_sub (S : St s₀ g₀ g env (V vl) own s) (h : ∀ t s', St s₀ g₀ g env (V vl) own s' → Q (.int (a - b) t) s') : wpAny (model prog w) A (binaryOp .Sub (.int a t) (.int b u)) Q E s := PyProof.Rows.sub_int (h _ _ (S.toks _))
theorem r_mod (S : St s₀ g₀ g env (V vl) own s) (hb : b ≠ 0) (h : ∀ t s', St s₀ g₀ g env (V vl) own s' → Q (.int (a.fmod b) t) s') : wpAny (model prog w) A (binaryOp .Mod (.int a t) (.int b u)) Q E s := mod_int' hb (h _ _ (S.toks _))
theorem r_iadd (S : St s₀ g₀ g env (V vl) own s) (h : ∀ t s', St s₀ g₀ g env (V vl) own s' → Q (.int (a + b) t) s') : wpAny (model prog w) A (inplaceOp .Add (.int a t) (.int b u)) Q E s := wpAny_iadd_int (h _ _ (S.toks _))
end

/-! lists -/
theorem r_new {vs : List Value} {Q : Value → Shared → Prop} (S : St s₀ g₀ g env (V vl) own s) (hsz : vs.length ≤ sizeLine) (h : ∀ a g' s', Le g g' → g' a = some (lst vs 0) → St s₀ g₀ g' env (V vl) own s' → Q (.ref a) s') :
    wpAny (model prog w) A (newList vs) Q E s := wpAny_newList (h _ _ _ S.sizeLe (if_pos rfl) (S.pushG (lst vs 0))) hsz
theorem r_newO {vs : List Value} {Q : Value → Shared → Prop} (S : St s₀ g₀ g env (V vl) own s) (hsz : vs.length ≤ sizeLine) (h : ∀ a s', St s₀ g₀ g env (V vl) ((a, lst vs 0) :: own) s' → Q (.ref a) s') :
    wpAny (model prog w) A (newList vs) Q E s := wpAny_newList (h _ _ (S.push1 (lst vs 0))) hsz

theorem r_app0 {D : Addr} {vs : List Value} {n : Nat} {y : Value} {Q : Value → Shared → Prop} (S : St s₀ g₀ g env (V vl) ((D, lst vs n) :: own) s) (hsz : vs.length ≤ sizeLine)
    (h : ∀ n' s', St s₀ g₀ g env (V vl) ((D, lst (vs ++ [y]) n') :: own) s' → Q .none s') : wpAny (model prog w) A (call (.builtin "list.append") [.ref D, y]) Q E s := by
  refine wpAny_list_append_plain (lst_plain (S.own (D, lst vs n) List.mem_cons_self)) (fun h' hl hs => ?_) (by simpa using hsz)
  obtain ⟨n', e⟩ := hl
  have e' : h'.get? D = some (lst (vs ++ [y]) n') := by rw [e]; simp [lst]
  refine h n' _ (S.one (a := D) (own' := (D, lst (vs ++ [y]) n') :: own) rfl rfl rfl (fun p hp => ?_) List.mem_cons_self fun b o hb e => (hs.2 b hb).trans e)
  rcases List.mem_cons.mp hp with rfl | hp
  · exact e'
  · refine (hs.2 p.1 fun e => ?_).trans (S.own p (List.mem_cons_of_mem _ hp))
    have hnd := S.nodup
    unfold prv at hnd
    have := (List.nodup_append.mp (List.nodup_cons.mp hnd).2).2.1
    rw [List.map_cons, List.nodup_cons] at this
    exact this.1 (List.mem_map.mpr ⟨p, hp, e⟩)
theorem r_app1 {q : Addr × Obj} {D : Addr} {vs : List Value} {n : Nat} {y : Value} {Q : Value → Shared → Prop} (S : St s₀ g₀ g env (V vl) (q :: (D, lst vs n) :: own) s) (hsz : vs.length ≤ sizeLine)
    (h : ∀ n' s', St s₀ g₀ g env (V vl) (q :: (D, lst (vs ++ [y]) n') :: own) s' → Q .none s') : wpAny (model prog w) A (call (.builtin "list.append") [.ref D, y]) Q E s := by
  refine wpAny_list_append_plain (lst_plain (S.own (D, lst vs n) (List.mem_cons_of_mem _ List.mem_cons_self))) (fun h' hl hs => ?_) (by simpa using hsz)
  obtain ⟨n', e⟩ := hl
  have e' : h'.get? D = some (lst (vs ++ [y]) n') := by rw [e]; simp [lst]
  have hnd := S.nodup
  unfold prv at hnd
  have hnd := (List.nodup_append.mp (List.nodup_cons.mp hnd).2).2.1
  rw [List.map_cons, List.map_cons, List.nodup_cons, List.nodup_cons] at hnd
  refine h n' _ (S.one (a := D) (own' := q :: (D, lst (vs ++ [y]) n') :: own) rfl rfl rfl (fun p hp => ?_) (List.mem_cons_of_mem _ List.mem_cons_self) fun b o hb e => (hs.2 b hb).trans e)
  rcases List.mem_cons.mp hp with rfl | hp
  · exact (hs.2 p.1 fun e => hnd.1 (e ▸ List.mem_cons_self)).trans (S.own p List.mem_cons_self)
  · rcases List.mem_cons.mp hp with rfl | hp
    · exact e'
    · exact (hs.2 p.1 fun e => hnd.2.1 (List.mem_map.mpr ⟨p, hp, e⟩)).trans (S.own p (List.mem_cons_of_mem _ (List.mem_cons_of_mem _ hp)))

/-- an item of a frozen list, in bounds -/
theorem r_item {value slice : Expr} {a : Addr} {vs : List Value} {n : Nat} {k : Int} {u : Tok} {v : Value} {Q : Value → Shared → Prop} (S : St s₀ g₀ g env (V vl) own s) (ha : g a = some (lst vs n)) (h0 : 0 ≤ k) (hfit : k < 2 ^ 63)
    (hx : vs[k.toNat]? = some v) (h : Q v s)
    (hs : subscripted slice false (.ref a) (.int k u) = operate [.ref a, .int k u] (getItem (.ref a) (.int k u)) := by with_unfolding_all rfl) : wpAny (model prog w) A (subscriptTail value slice (.ref a) (.int k u)) Q E s :=
  tail_any (lst_isList (S.keep _ _ ha)).typeIs slot_list_getitem.lookup (wpAny_getItem_list (lst_isList (S.keep _ _ ha)) h0 hfit (by simpa using hx) h) hs

/-- len of a frozen list -/
theorem r_len {a : Addr} {vs : List Value} {n : Nat} {Q : Value → Shared → Prop} (S : St s₀ g₀ g env (V vl) own s) (ha : g a = some (lst vs n)) (hsz : vs.length ≤ sizeLine)
    (h : ∀ t s', St s₀ g₀ g env (V vl) own s' → Q (.int vs.length t) s') : wpAny (model prog w) A (call (.builtin "len") [.ref a]) Q E s := by
  refine PyProof.Rows.len_list (lst_isList (S.keep _ _ ha)) ?_ ?_
  · rw [sizeLine_eq] at hsz; rw [List.size_toArray]; omega
  · rw [List.size_toArray]; exact h _ _ (S.toks _)
end
end
section
open PySem PySem.W PySem.Calls PyProof.Rows

/-- what a call gives back -/
noncomputable def Ret (s : Shared) (g : Gh) (P : Gh → Value → Prop) (v : Value) (s' : Shared) : Prop :=
  s'.gens = s.gens ∧ s'.os = s.os ∧ (∀ a o, s.heap.get? a = some o → s'.heap.get? a = some o) ∧ ∃ g', Le g g' ∧ Le g' s'.heap.get? ∧ (∀ a o, g' a = some o → s.heap.get? a = none ∨ g a = some o) ∧ P g' v

section
variable {prog : Program} {w : World} {A : Around} {E : Value → Shared → Prop} {s₀ s s' : Shared} {g₀ g : Gh} {env : Env} {vl : List (Str × Value)} {own : List (Addr × Obj)}

theorem St.perm {own' : List (Addr × Obj)} (S : St s₀ g₀ g env (V vl) own s) (h : own.Perm own') : St s₀ g₀ g env (V vl) own' s where
  gens := S.gens
  os := S.os
  ns := S.ns
  cell := S.cell
  nodup := S.nodup.perm (List.Perm.cons _ (List.Perm.append (List.Perm.refl _) (h.map _)))
  base := S.base
  keep := S.keep
  priv := fun a ha => S.priv a ((List.Perm.cons _ (List.Perm.append (List.Perm.refl _) (h.map _))).mem_iff.mpr ha)
  own := fun p hp => S.own p (h.mem_iff.mpr hp)
  mono := S.mono
  gnew := S.gnew
  ck := S.ck
  cn := S.cn
  cfro := S.cfro

/-- a private thing is given up, whatever became of it -/
theorem St.lose {a : Addr} {o : Obj} (S : St s₀ g₀ g env (V vl) ((a, o) :: own) s) (hg : s'.gens = s.gens) (ho : s'.os = s.os) (hk : ∀ b o, b ≠ a → s.heap.get? b = some o → s'.heap.get? b = some o) : St s₀ g₀ g env (V vl) own s' := by
  have S2 := S.drop (List.sublist_cons_self (a, o) own)
  have hin : a ∈ prv env ((a, o) :: own) := List.mem_cons_of_mem _ (List.mem_append.mpr (.inr List.mem_cons_self))
  have hP := S.priv a hin
  have hnd := S.nodup
  have hout : a ∉ prv env own := by
    unfold prv at hnd ⊢
    intro hm
    have hp : (env.locals :: (pcs env ++ ((a, o) :: own).map (·.1))).Perm (a :: (env.locals :: (pcs env ++ own.map (·.1)))) := by
      rw [List.map_cons]
      exact (List.Perm.cons _ List.perm_middle).trans (List.Perm.swap _ _ _)
    exact (List.nodup_cons.mp (hp.nodup_iff.mp hnd)).1 hm
  refine ⟨hg.trans S2.gens, ho.trans S2.os, ?_, ?_, S2.nodup, ?_, ?_, S2.priv, ?_, S2.mono, S2.gnew, S2.ck, S2.cn, S2.cfro⟩
  · obtain ⟨m, hn, e⟩ := S2.ns
    obtain ⟨oL, es, ep, h1, r⟩ := hn
    exact ⟨m, ⟨oL, es, ep, hk _ _ (fun e => hout (e ▸ List.mem_cons_self)) h1, r⟩, e⟩
  · intro x c hc
    obtain ⟨oc, h1, h2⟩ := S2.cell x c hc
    exact ⟨oc, hk _ _ (S.cne hc (.inr List.mem_cons_self)) h1, h2⟩
  · intro b ob e; exact hk _ _ (fun e' => by rw [e', hP.2] at e; cases e) (S2.base _ _ e)
  · intro b ob e; exact hk _ _ (fun e' => by rw [e', hP.1] at e; cases e) (S2.keep _ _ e)
  · intro p hp; exact hk _ _ (fun e => hout (e ▸ List.mem_cons_of_mem _ (List.mem_append.mpr (.inr (List.mem_map.mpr ⟨p, hp, rfl⟩))))) (S2.own p hp)

theorem St.done {P : Gh → Value → Prop} {v : Value} (S : St s₀ g₀ g env (V vl) own s) (h : P g v) : Ret s₀ g₀ P v s :=
  ⟨S.gens, S.os, S.base, g, S.mono, S.keep, S.gnew, h⟩

theorem St.ret {P : Gh → Value → Prop} {v : Value} (S : St s₀ g₀ g env (V vl) own s) (R : Ret s g P v s') : ∃ g', Le g g' ∧ St s₀ g₀ g' env (V vl) own s' ∧ P g' v := by
  obtain ⟨h1, h2, h3, g', hle, hk, hn, hP⟩ := R
  have T := S.grow h1 h2 h3
  refine ⟨g', hle, ⟨T.gens, T.os, T.ns, T.cell, T.nodup, T.base, hk, fun a ha => ⟨?_, (T.priv a ha).2⟩, T.own, Le.trans S.mono hle, fun a o e => ?_, T.ck, T.cn, T.cfro⟩, hP⟩
  · cases e : g' a with
    | none => rfl
    | some o =>
      rcases hn a o e with h | h
      · obtain ⟨o', e'⟩ := S.prvLive ha
        rw [e'] at h; cases h
      · rw [(S.priv a ha).1] at h; cases h
  · rcases hn a o e with h | h
    · exact .inl (S.freshB h)
    · exact S.gnew a o h

theorem r_call {f : Value} {args : List Value} {kw : List (Str × Value)} {P : Gh → Value → Prop} {Q : Value → Shared → Prop} (S : St s₀ g₀ g env (V vl) own s) (hc : wpAny (model prog w) A (call f args kw) (Ret s g P) Never s)
    (h : ∀ v g' s', Le g g' → St s₀ g₀ g' env (V vl) own s' → P g' v → Q v s') : wpAny (model prog w) A (call f args kw) Q E s :=
  wpAny_mono hc (fun v s' R => let ⟨g', a, b, c⟩ := S.ret R; h v g' s' a b c) fun _ _ x => x.elim

theorem St.weaken {g' : Gh} (S : St s₀ g₀ g' env (V vl) own s) (hle : Le g g') (hm : Le g₀ g) : St s₀ g₀ g env (V vl) own s where
  gens := S.gens
  os := S.os
  ns := S.ns
  cell := S.cell
  nodup := S.nodup
  base := S.base
  keep := Le.trans hle S.keep
  priv := fun a ha => ⟨by
    cases e : g a with
    | none => rfl
    | some o => exact absurd (hle _ _ e) (by rw [(S.priv a ha).1]; exact fun x => nomatch x), (S.priv a ha).2⟩
  own := S.own
  mono := hm
  gnew := fun a o e => S.gnew a o (hle _ _ e)
  ck := S.ck
  cn := S.cn
  cfro := S.cfro

/-- a call that hands back nothing made -/
theorem r_callI {f : Value} {args : List Value} {kw : List (Str × Value)} {P : Value → Prop} {Q : Value → Shared → Prop} (S : St s₀ g₀ g env (V vl) own s) (hc : wpAny (model prog w) A (call f args kw) (Ret s g fun _ v => P v) Never s)
    (h : ∀ v s', St s₀ g₀ g env (V vl) own s' → P v → Q v s') : wpAny (model prog w) A (call f args kw) Q E s :=
  r_call S hc fun v _ s' hle S' hP => h v s' (S'.weaken hle S.mono) hP

section
variable {a : Addr} {name : Str} {params : Arguments} {fb : List Stmt} {scope : Scope} {dV kV doc pm : Value} {an : Option Addr} {cd ct : Value}
/-- a call of a def by place -/
theorem r_cwf {pos : Pos} {e : Expr} {rest : List Expr} {Q : Value → Shared → Prop} (F : FnG g a name params fb scope dV kV doc pm an cd ct)
    (h : wpAny (model prog w) A (spliced (backTo pos (starEach (e :: rest) env))) (fun vs s₁ => Le g s₁.heap.get? ∧ wpAny (model prog w) A (call (.ref a) vs) Q E s₁) E s)
    (he : starEach (e :: rest) env = (false, eval e env) :: starEach rest env := by rfl) :
    wpAny (model prog w) A (callWith pos (.ref a) [] (backTo pos (starEach (e :: rest) env)) []) Q E s := by
  obtain ⟨oc, od, sl, ho⟩ := F.o
  exact callWith_def (o := ⟨oc, od, .func (fnOf name name params fb scope dV kV doc pm an cd ct), sl⟩) rfl (wpAny_mono h (fun vs s₁ h₁ => ⟨h₁.1 _ _ ho, h₁.2⟩) fun _ _ x => x) he
/-- a call of a def by place and one keyword -/
theorem r_cwk {pos kp : Pos} {e : Expr} {rest : List Expr} {kn : Str} {ke : Expr} {Q : Value → Shared → Prop} (F : FnG g a name params fb scope dV kV doc pm an cd ct)
    (h : wpAny (model prog w) A (spliced (backTo pos (starEach (e :: rest) env))) (fun vs s₁ => wpAny (model prog w) A (eval ke env) (fun kv s₂ => Le g s₂.heap.get? ∧ wpAny (model prog w) A (call (.ref a) vs [(kn, kv)]) Q E s₂) E s₁) E s)
    (he : starEach (e :: rest) env = (false, eval e env) :: starEach rest env := by rfl) :
    wpAny (model prog w) A (callWith pos (.ref a) [] (backTo pos (starEach (e :: rest) env)) (backToKw pos (keywordEach [⟨some kn, ke, kp⟩] env))) Q E s := by
  obtain ⟨oc, od, sl, ho⟩ := F.o
  refine callWith_def_kw (o := ⟨oc, od, .func (fnOf name name params fb scope dV kV doc pm an cd ct), sl⟩) rfl ?_
  rw [he] at h ⊢
  refine evalArgs_kw rfl (wpAny_mono h (fun vs s₁ h₁ => ?_) fun _ _ x => x)
  refine wpAny_evalAll_cons (wpAny_bind (wpAny_mono h₁ (fun kv s₂ h₂ => ?_) fun _ _ x => x))
  exact wpAny_bind (wpAny_standAt (wpAny_pure (wpAny_evalAll_nil ⟨h₂.1 _ _ ho, h₂.2⟩)))
end

theorem r_ift {b : Bool} {P R : Prop} (hb : b = true) (h : P) : if b = true then P else R := by rw [if_pos hb]; exact h
theorem r_iff {b : Bool} {P R : Prop} (hb : b = false) (h : R) : if b = true then P else R := by rw [hb]; exact h
theorem r_if {b : Bool} {P R : Prop} (ht : b = true → P) (hf : b = false → R) : if b = true then P else R := by
  cases b with
  | true => exact ht rfl
  | false => exact hf rfl

/-- a while, by an invariant and a measure -/
theorem r_while {test : Expr} {body : List Stmt} {pos : Pos} {Q : Flow → Shared → Prop} (I : Nat → Shared → Prop)
    (turn : ∀ n s (R : Flow → Shared → Prop), Cont (fun f s₃ => match f with
          | .next | .cont => ∃ m, m < n ∧ I m s₃
          | .brk => Q .next s₃
          | .ret v => Q (.ret v) s₃) R → I n s → wpAny (model prog w) A (isTrue test env (eval test env)) (fun b s₂ =>
      if b then wpAny (model prog w) A (execs body env) R Never s₂
      else R .brk s₂) Never s)
    (n : Nat) (h : I n s) : wpAny (model prog w) A (exec (.While test body [] pos) env) Q E s := by
  refine wpAny_While (codeAny_whileLoop I (fun n s hI => ?_) n h)
  refine wpAny_noRaise (wpAny_mono (turn n s _ (fun _ _ h => h) hI) (fun b s₂ hb => ?_) fun _ _ x => x)
  cases b with
  | true =>
    simp only [if_true] at hb ⊢
    refine wpAny_noRaise (wpAny_mono hb (fun f s₃ hf => ?_) fun _ _ x => x)
    cases f <;> exact hf
  | false =>
    simp only [Bool.false_eq_true, if_false] at hb ⊢
    exact wpAny_execs_nil hb

theorem r_eq {M : Model} {t : Sem Unit} {Q : Unit → Shared → Prop} (h : t = pure ()) (hq : Q () s) : wpAny M A t Q E s := h ▸ wpAny_pure hq

/-- a for over a frozen list -/
theorem r_for {target : Expr} {body : List Stmt} {Q : Flow → Shared → Prop} {l : Addr} {vs : List Value} {nl : Nat}
    (hh : A.handled = none) (S : St s₀ g₀ g env (V vl) own s) (hl : g l = some (lst vs nl))
    (J : Nat → List (Str × Value) → Gh → List (Addr × Obj) → Prop) (h0 : J 0 vl g own)
    (step : ∀ i v vl' g' own' it s' (R : Flow → Shared → Prop), Cont (fun f s₃ => match f with
        | .next | .cont => ∃ vl'' g'' own'', St s₀ g₀ g'' env (V vl'') (own'' ++ [it]) s₃ ∧ Le g' g'' ∧ J (i + 1) vl'' g'' own''
        | .brk => Q .next s₃
        | .ret v => Q (.ret v) s₃) R → vs[i]? = some v → J i vl' g' own' → Le g g' → St s₀ g₀ g' env (V vl') (own' ++ [it]) s' →
      wpAny (model prog w) A (assign target env v) (fun _ s₂ => wpAny (model prog w) A (execs body env) R Never s₂) Never s')
    (fin : ∀ vl' g' own' s', J vs.length vl' g' own' → Le g g' → St s₀ g₀ g' env (V vl') own' s' → Q .next s')
    (ht : (∀ it v, letOwnedTupleGo target it v = pure ()) ∨ ((∃ elts x1 p, target = .Tuple elts x1 p) ∧ ∀ v ∈ vs, ∃ T, v = .ref T)) :
    wpAny (model prog w) A (pyIter (.ref l)) (fun it s₂ => codeAny (model prog w) A (.forLoop target it body [] env) (fun r s' => match r with | .ok f => Q f s' | .error e => cameBackBy (model prog w) A env E e s') s₂) E s := by
  refine wpAny_pyIter_list (lst_isList (S.keep _ _ hl)) ?_
  have S1 := S.push1 { cls := .type "list_iterator", data := .fields #[.ref l, .int 0 0] }
  generalize hIt : s.heap.objs.size = I at S1 ⊢
  refine codeAny_forLoop_any (fun n s' => ∃ i vl' g' own' o, i ≤ vs.length ∧ n = vs.length - i + 1 ∧ s'.heap.IsListIter I l i ∧ J i vl' g' own' ∧ Le g g' ∧ St s₀ g₀ g' env (V vl') (own' ++ [(I, o)]) s') ?_ (vs.length + 1) ?_
  · rintro n s' ⟨i, vl', g', own', o, hi, rfl, hit, hJ, hle, S'⟩
    have hl' : s'.heap.IsList l vs.toArray := lst_isList (S'.keep _ _ (hle _ _ hl))
    have hmem : I ∈ (own' ++ [(I, o)]).map (·.1) := by simp
    cases hv : vs[i]? with
    | none =>
      have hsz : i = vs.length := Nat.le_antisymm hi (by simpa using hv)
      subst hsz
      refine wpAny_pyNext_list_end hh hit hl' (by simpa using hv) fun h₁ he₁ => wpAny_execs_nil (fin vl' g' own' _ hJ hle ?_)
      exact (S'.perm (List.perm_append_comm (l₁ := own') (l₂ := [(I, o)]))).lose rfl rfl he₁
    | some v =>
      have hlt : i < vs.length := by
        by_cases h : i < vs.length
        · exact h
        · rw [List.getElem?_eq_none (by omega)] at hv; cases hv
      refine wpAny_pyNext_list_item hit hl' (by simpa using hv) fun h₁ hit₁ hs₁ => ?_
      obtain ⟨o₁, ho₁, hc₁, hd₁⟩ := id hit₁
      have S2 : St s₀ g₀ g' env (V vl') (own' ++ [(I, o₁)]) { s' with heap := h₁ } := by
        refine S'.one (a := I) rfl rfl (by simp) (fun p hp => ?_) hmem fun b ob hb e => (hs₁.2 b hb).trans e
        rcases List.mem_append.mp hp with hp | hp
        · have hne : p.1 ≠ I := by
            intro e
            have hnd := S'.nodup
            unfold prv at hnd
            rw [List.map_append, List.nodup_cons, List.nodup_append, List.nodup_append] at hnd
            exact hnd.2.2.1.2.2 p.1 (List.mem_map.mpr ⟨p, hp, rfl⟩) I (by simp) e
          exact (hs₁.2 p.1 hne).trans (S'.own p (List.mem_append.mpr (.inl hp)))
        · rw [List.mem_singleton] at hp; subst hp; exact ho₁
      have hgo : ∀ {Q' : Unit → Shared → Prop} {E' : Value → Shared → Prop}, Q' () { s' with heap := h₁ } → wpAny (model prog w) A (letOwnedTupleGo target (.ref I) v) Q' E' { s' with heap := h₁ } := by
        intro Q' E' hq
        rcases ht with ht | ⟨⟨elts, x1, p, rfl⟩, ht⟩
        · exact r_eq (ht _ _) hq
        · obtain ⟨T, rfl⟩ := ht v (List.mem_of_getElem? hv)
          exact wpAny_letOwnedTupleGo_listiter hit₁ hq
      refine hgo ?_
      refine wpAny_noRaise (wpAny_mono (step i v vl' g' own' (I, o₁) _ _ (fun _ _ h => h) hv hJ hle S2) (fun _ s₂ h₂ => ?_) fun _ _ x => x)
      refine wpAny_noRaise (wpAny_mono h₂ (fun f s₃ h₃ => ?_) fun _ _ x => x)
      have goOn : (∃ vl'' g'' own'', St s₀ g₀ g'' env (V vl'') (own'' ++ [(I, o₁)]) s₃ ∧ Le g' g'' ∧ J (i + 1) vl'' g'' own'') →
          ∃ m, m < vs.length - i + 1 ∧ ∃ i vl' g' own' o, i ≤ vs.length ∧ m = vs.length - i + 1 ∧ s₃.heap.IsListIter I l i ∧ J i vl' g' own' ∧ Le g g' ∧ St s₀ g₀ g' env (V vl') (own' ++ [(I, o)]) s₃ := by
        rintro ⟨vl'', g'', own'', S3, hle', hJ'⟩
        refine ⟨vs.length - (i + 1) + 1, by omega, i + 1, vl'', g'', own'', o₁, hlt, rfl, ⟨o₁, S3.own (I, o₁) (by simp), hc₁, hd₁⟩, hJ', Le.trans hle hle', S3⟩
      cases f with
      | next => exact goOn h₃
      | cont => exact goOn h₃
      | brk => exact h₃
      | ret v => exact h₃
  · exact ⟨0, vl, g, own, { cls := .type "list_iterator", data := .fields #[.ref l, .int 0 0] }, Nat.zero_le _, rfl, ⟨_, S1.own _ List.mem_cons_self, rfl, rfl⟩, h0, Le.refl _, S1.perm (List.perm_append_comm (l₁ := [(I, _)]) (l₂ := own))⟩
end
end
section
open PySem PySem.W PySem.Calls PyProof PyProof.Rows PySem.Builtin PySem.Builtin.Str
/-- a text by its signs' numbers -/
noncomputable def Tx (l : List Nat) : PySem.Str := ⟨l.toArray⟩
theorem Tx_length (l : List Nat) : (Tx l).length = l.length := by simp [Tx, PySem.Str.length]
theorem Tx_inj {a b : List Nat} (h : Tx a = Tx b) : a = b := by
  have := congrArg (fun x : PySem.Str => x.cps.toList) h
  simpa [Tx] using this
theorem Tx_append (a b : List Nat) : Tx a ++ Tx b = Tx (a ++ b) := by
  apply PySem.Str.ext'
  simp [Tx, PySem.Str.cps_append]
theorem Tx_eq (x : PySem.Str) : x = Tx x.cps.toList := by cases x; simp [Tx]

theorem clip_idx (a b len : Nat) : strSliceIndices (some (a : Int)) (some (b : Int)) 1 len = (List.range (min b len - a)).map (fun k => a + k) := by
  have h1 : ¬ ((a : Int) < 0) := by omega
  have h2 : ¬ ((b : Int) < 0) := by omega
  have e1 : max (0 : Int) (min (a : Int) (len : Int)) = (min a len : Nat) := by omega
  have e2 : max (0 : Int) (min (b : Int) (len : Int)) = (min b len : Nat) := by omega
  simp only [strSliceIndices, sliceRange, h1, h2, if_false, e1, e2, show ((1 : Int) > 0) = True from by simp, if_true]
  by_cases hlt : ((min a len : Nat) : Int) < (min b len : Nat)
  · have e4 : min a len = a := by omega
    have e3 : (((min b len : Nat) : Int) - (min a len : Nat) + 1 - 1).toNat = min b len - a := by omega
    simp only [hlt, if_true, Int.ediv_one, e3]
    refine List.map_congr_left fun k _ => ?_
    omega
  · have : min b len - a = 0 := by omega
    simp [hlt, this]

theorem Tx_slice (l : List Nat) (a b : Nat) : Txt.slice (Tx l) (some (a : Int)) (some (b : Int)) = Tx ((l.drop a).take (b - a)) := by
  unfold Txt.slice
  rw [clip_idx, Tx_length]
  have hp : ((List.range (min b l.length - a)).map (fun k => a + k)).filterMap ((Tx l).cps[·]?) = (l.drop a).take (b - a) := by
    have e : ∀ k : Nat, (Tx l).cps[k]? = l[k]? := fun k => by simp [Tx]
    simp only [e]
    by_cases h : a ≤ l.length
    · rw [StrLaws.picks l (min b l.length - a) a (by omega)]
      by_cases hb : b ≤ l.length
      · rw [Nat.min_eq_left hb]
      · rw [Nat.min_eq_right (by omega), List.take_of_length_le (by simp), List.take_of_length_le (by simp; omega)]
    · have : min b l.length - a = 0 := by omega
      rw [this, List.drop_eq_nil_of_le (by omega)]; simp
  rw [hp]
  split
  · rename_i h
    simp only [beq_self_eq_true, Bool.true_and, beq_iff_eq, List.length_map, List.length_range] at h
    by_cases hz : l.length = 0
    · have : l = [] := List.length_eq_zero_iff.mp hz
      subst this; simp
    · have ha : a = 0 := by omega
      subst ha
      rw [List.drop_zero, List.take_of_length_le (by omega)]
  · rfl
theorem Tx_slice_from (l : List Nat) (a : Nat) : Txt.slice (Tx l) (some (a : Int)) none = Tx (l.drop a) := by
  have e : Txt.slice (Tx l) (some (a : Int)) none = Txt.slice (Tx l) (some (a : Int)) (some (((Tx l).length : Nat) : Int)) := by
    unfold Txt.slice; rw [StrLaws.sliceIdx_none_hi]
  rw [e, Tx_slice, Tx_length, List.take_of_length_le (by simp)]
theorem Tx_slice_upto (l : List Nat) (b : Nat) : Txt.slice (Tx l) none (some (b : Int)) = Tx (l.take b) := by
  have e : Txt.slice (Tx l) none (some (b : Int)) = Txt.slice (Tx l) (some ((0 : Nat) : Int)) (some (b : Int)) := by
    unfold Txt.slice; rw [StrLaws.sliceIdx_none_lo]; rfl
  rw [e, Tx_slice]; simp

section
variable {prog : Program} {w : World} {A : Around} {E : Value → Shared → Prop} {s₀ s : Shared} {g₀ g : Gh} {env : Env} {vl : List (PySem.Str × Value)} {own : List (Addr × Obj)} {Q : Value → Shared → Prop}
  {value slice : PySem.Expr} {l : List Nat} {t : Tok}

theorem r_sl_ss {i j : Int} {a b : Nat} {ui uj : Tok} (S : St s₀ g₀ g env (V vl) own s) (hl : l.length ≤ sizeLine) (hi : i = a) (hj : j = b) (h : ∀ t s', St s₀ g₀ g env (V vl) own s' → Q (.str (Tx ((l.drop a).take (b - a))) t) s')
    (hs : subscripted slice false (.str (Tx l) t) (.ref s.heap.objs.size) = operate [.ref s.heap.objs.size, .str (Tx l) t] (getItem (.str (Tx l) t) (.ref s.heap.objs.size)) := by with_unfolding_all rfl)
    (ht : ∀ r, letTemporaryGo value (.str (Tx l) t) r = pure () := by intro _; with_unfolding_all rfl) :
    wpAny (model prog w) A (subscriptTail value slice (.str (Tx l) t) (.ref s.heap.objs.size)) Q E { s with heap := s.heap.push { cls := .type "slice", data := .fields #[.int i ui, .int j uj, .none] } } := by
  obtain ⟨m, F, e⟩ := S.fr
  subst hi hj
  refine slice_strN_ss F (news_all s.heap env.locals) (fun h' t' k F' N' => ?_) hs ht (by rw [Tx_length]; exact hl)
  rw [Tx_slice]
  exact h _ _ (S.ofFr e F' N' fun p hp => hp)
theorem r_sl_sn {i : Int} {a : Nat} {ui : Tok} (S : St s₀ g₀ g env (V vl) own s) (hl : l.length ≤ sizeLine) (hi : i = a) (h : ∀ t s', St s₀ g₀ g env (V vl) own s' → Q (.str (Tx (l.drop a)) t) s')
    (hs : subscripted slice false (.str (Tx l) t) (.ref s.heap.objs.size) = operate [.ref s.heap.objs.size, .str (Tx l) t] (getItem (.str (Tx l) t) (.ref s.heap.objs.size)) := by with_unfolding_all rfl)
    (ht : ∀ r, letTemporaryGo value (.str (Tx l) t) r = pure () := by intro _; with_unfolding_all rfl) :
    wpAny (model prog w) A (subscriptTail value slice (.str (Tx l) t) (.ref s.heap.objs.size)) Q E { s with heap := s.heap.push { cls := .type "slice", data := .fields #[.int i ui, .none, .none] } } := by
  obtain ⟨m, F, e⟩ := S.fr
  subst hi
  refine slice_strN_sn F (news_all s.heap env.locals) (fun h' t' k F' N' => ?_) hs ht (by rw [Tx_length]; exact hl)
  rw [Tx_slice_from]
  exact h _ _ (S.ofFr e F' N' fun p hp => hp)
theorem r_sl_ns {j : Int} {b : Nat} {uj : Tok} (S : St s₀ g₀ g env (V vl) own s) (hl : l.length ≤ sizeLine) (hj : j = b) (h : ∀ t s', St s₀ g₀ g env (V vl) own s' → Q (.str (Tx (l.take b)) t) s')
    (hs : subscripted slice false (.str (Tx l) t) (.ref s.heap.objs.size) = operate [.ref s.heap.objs.size, .str (Tx l) t] (getItem (.str (Tx l) t) (.ref s.heap.objs.size)) := by with_unfolding_all rfl)
    (ht : ∀ r, letTemporaryGo value (.str (Tx l) t) r = pure () := by intro _; with_unfolding_all rfl) :
    wpAny (model prog w) A (subscriptTail value slice (.str (Tx l) t) (.ref s.heap.objs.size)) Q E { s with heap := s.heap.push { cls := .type "slice", data := .fields #[.none, .int j uj, .none] } } := by
  obtain ⟨m, F, e⟩ := S.fr
  subst hj
  refine slice_strN_ns F (news_all s.heap env.locals) (fun h' t' k F' N' => ?_) hs ht (by rw [Tx_length]; exact hl)
  rw [Tx_slice_upto]
  exact h _ _ (S.ofFr e F' N' fun p hp => hp)

/-- one sign -/
theorem r_sign {i : Int} {a c : Nat} {u : Tok} (S : St s₀ g₀ g env (V vl) own s) (hi : i = a) (hfit : a < 2 ^ 62) (hc : l[a]? = some c) (h : ∀ t s', St s₀ g₀ g env (V vl) own s' → Q (.str (Tx [c]) t) s')
    (hs : subscripted slice false (.str (Tx l) t) (.int i u) = operate [.str (Tx l) t, .int i u] (getItem (.str (Tx l) t) (.int i u)) := by with_unfolding_all rfl)
    (ht : ∀ r, letTemporaryGo value (.str (Tx l) t) r = pure () := by intro _; with_unfolding_all rfl) :
    wpAny (model prog w) A (subscriptTail value slice (.str (Tx l) t) (.int i u)) Q E s := by
  subst hi
  have hlt : a < l.length := by
    by_cases h : a < l.length
    · exact h
    · rw [List.getElem?_eq_none (by omega)] at hc; cases hc
  refine item_str ?_ (by omega) (by rw [Tx_length]; omega) (fun _ => ?_) hs ht
  · unfold fitsSsize
    first | (simp; omega) | (simp only [decide_eq_true_eq, Bool.and_eq_true]; omega)
  · have e : Txt.item (Tx l) (a : Int) = Tx [c] := by
      rw [PyProof.Rows.item_meets (n := c) (by omega) (by simpa [Tx] using hc)]; rfl
    rw [e]
    exact h _ _ (S.toks _)

theorem r_sadd {x y : List Nat} {u : Tok} (S : St s₀ g₀ g env (V vl) own s) (hsz : x.length + y.length ≤ sizeLine) (h : ∀ t s', St s₀ g₀ g env (V vl) own s' → Q (.str (Tx (x ++ y)) t) s') :
    wpAny (model prog w) A (binaryOp .Add (.str (Tx x) t) (.str (Tx y) u)) Q E s :=
  PyProof.Rows.add_str (fun t' tk => by rw [Tx_append]; exact h _ _ (S.toks _)) (by rw [Tx_length, Tx_length]; exact hsz)

theorem r_slen {x : List Nat} (S : St s₀ g₀ g env (V vl) own s) (hsz : x.length ≤ sizeLine) (h : ∀ t s', St s₀ g₀ g env (V vl) own s' → Q (.int x.length t) s') :
    wpAny (model prog w) A (call (.builtin "len") [.str (Tx x) t]) Q E s :=
  PyProof.Rows.len_str (by rw [Tx_length]; rw [sizeLine_eq] at hsz; omega) (by rw [Tx_length]; exact h _ _ (S.toks _))

theorem r_ord {c : Nat} (S : St s₀ g₀ g env (V vl) own s) (h : ∀ t s', St s₀ g₀ g env (V vl) own s' → Q (.int c t) s') : wpAny (model prog w) A (call (.builtin "ord") [.str (Tx [c]) t]) Q E s :=
  ord_of_one (Tx_length [c]) (by simpa [Tx] using h _ _ (S.toks _))
theorem beq_Tx (x y : List Nat) : (Tx x == Tx y) = decide (x = y) := by
  by_cases h : x = y
  · subst h; simp
  · have : Tx x ≠ Tx y := fun e => h (Tx_inj e)
    simp [h, this]
theorem r_seq {x y : List Nat} {u : Tok} (h : Q (.bool (decide (x = y))) s) : wpAny (model prog w) A (compareOp .Eq (.str (Tx x) t) (.str (Tx y) u)) Q E s := PyProof.Rows.eq_str (by rw [beq_Tx]; exact h)
theorem r_sne {x y : List Nat} {u : Tok} (h : Q (.bool (!decide (x = y))) s) : wpAny (model prog w) A (compareOp .NotEq (.str (Tx x) t) (.str (Tx y) u)) Q E s :=
  PyProof.Rows.ne_str (by rw [bne, beq_Tx]; exact h)
end

/-- a dict of texts, frozen -/
noncomputable def DictG (prog : Program) (w : World) (g : Gh) (d : Addr) (f : PySem.Str → Option Value) : Prop :=
  ∃ o es ep, g d = some o ∧ o.ExactDict ∧ o.data = .dict es ep ∧ KeysOf (strKind prog w) es ∧ ∀ k, findBy (strKind prog w).is es k = f k
theorem DictG.mono {prog : Program} {w : World} {g g' : Gh} {d : Addr} {f : PySem.Str → Option Value} (x : DictG prog w g d f) (h : Le g g') : DictG prog w g' d f := let ⟨o, es, ep, e, r⟩ := x; ⟨o, es, ep, h _ _ e, r⟩
theorem DictG.at {prog : Program} {w : World} {g : Gh} {h : Heap} {d : Addr} {f : PySem.Str → Option Value} (x : DictG prog w g d f) (hk : Le g h.get?) : h.MapOf (strKind prog w) d f := let ⟨o, es, ep, e, r⟩ := x; ⟨o, es, ep, hk _ _ e, r⟩
section
variable {prog : Program} {w : World} {A : Around} {E : Value → Shared → Prop} {s₀ s : Shared} {g₀ g : Gh} {env : Env} {vl : List (PySem.Str × Value)} {own : List (Addr × Obj)} {Q : Value → Shared → Prop}
  {value slice : PySem.Expr} {t : Tok} {d : Addr} {f : PySem.Str → Option Value} {k : PySem.Str}
theorem r_in (S : St s₀ g₀ g env (V vl) own s) (hd : DictG prog w g d f) (hsys : (d == sysModules) = false) (h : ∀ s', St s₀ g₀ g env (V vl) own s' → Q (.bool (f k).isSome) s') :
    wpAny (model prog w) A (compareOp .In (.str k t) (.ref d)) Q E s := wpAny_in_of (strKind_is prog w k t) hsys (hd.at S.keep) (h _ (S.toks _))
theorem r_dget {v : Value} (S : St s₀ g₀ g env (V vl) own s) (hd : DictG prog w g d f) (hv : f k = some v) (h : ∀ s', St s₀ g₀ g env (V vl) own s' → Q v s')
    (hs : subscripted slice false (.ref d) (.str k t) = operate [.ref d, .str k t] (getItem (.ref d) (.str k t)) := by with_unfolding_all rfl) :
    wpAny (model prog w) A (subscriptTail value slice (.ref d) (.str k t)) Q E s :=
  tail_any (hd.at S.keep).typeIs slot_dict_getitem.lookup (wpAny_getItem_of (strKind_is prog w k t) (hd.at S.keep) hv (h _ (S.toks _))) hs
end
end
section
open PySem PySem.W PySem.Calls PyProof PyProof.Rows
section
variable {prog : Program} {w : World} {A : Around} {E : Value → Shared → Prop} {s₀ s : Shared} {g₀ g : Gh} {env : Env} {vl : List (PySem.Str × Value)} {own : List (Addr × Obj)}

/-- the block of a comprehension over a frozen list -/
theorem comp_block {elt target iter : PySem.Expr} {ifs : List PySem.Expr} {rest : List Comprehension} {scope : Scope} {pos : Pos} {cl : List (PySem.Str × Addr)} {l : Addr} {vs : List Value} {nl : Nat} {cvl : List (PySem.Str × Value)} {RR : Value → Addr → Result → Shared → Prop}
    (S : St s₀ g₀ g env (V vl) own s) (hl : g l = some (lst vs nl))
    (hcell : ∀ y ∈ scope.names, y.2 ≠ .cell) (hkind : scope.kind = .function)
    (hcl : ∀ p ∈ cl, p ∈ env.cells ∧ V cvl p.1 = V vl p.1) (hck : ∀ p ∈ cl, (relabel scope env).names.lookup p.1 = some .cell) (hcn : (cl.map (·.1)).Nodup)
    (hloc : ∀ x, (relabel scope env).names.lookup x = some .local → V cvl x = none)
    (loop : ∀ C I D o s₄, St s g g (compEnvC scope cl C env) (V cvl) [(I, o), (D, lst [] 0)] s₄ → s₄.heap.IsListIter I l 0 →
      codeAny (model prog w) A (.compLoop (.ListComp elt (⟨target, iter, ifs, 0⟩ :: rest) scope pos) 0 (.ref I) (.ref D) (compEnvC scope cl C env)) (RR (.ref D) C) s₄) :
    wpAny (model prog w) A (pyIter (.ref l)) (fun it s₂ => wpAny (model prog w) A (newList []) (fun acc s₃ => wpAny (model prog w) A (newFunctionEnv scope env.globals cl [] env.qual none .none (some env)) (fun cenv s₄ =>
      codeAny (model prog w) A (.compStart (.ListComp elt (⟨target, iter, ifs, 0⟩ :: rest) scope pos) 0 it acc { cenv with scope := relabel scope env }) (RR acc cenv.locals) s₄) E s₃) E s₂) E s := by
  refine wpAny_pyIter_list (lst_isList (S.keep _ _ hl)) ?_
  refine wpAny_newObj_type (wpAny_newFunctionEnv hcell (by intro y hy; simp at hy) (fun h₁ hns₁ hsb₁ => ?_) hkind) (by show ([] : List Value).toArray.size ≤ sizeLine; simp)
  dsimp only at hns₁ hsb₁ ⊢
  generalize hI : s.heap.objs.size = I at *
  generalize hH1 : s.heap.push { cls := .type "list_iterator", data := .fields #[.ref l, .int 0 0] } = H1 at *
  generalize hD : H1.objs.size = D at *
  generalize hH2 : H1.push { cls := .type "list", dict := none, data := .seq ([] : List Value).toArray } = H2 at *
  generalize hC : H2.objs.size = C at *
  have d1 : D = I + 1 := by rw [← hD, ← hH1, Heap.size_push, hI]
  have d2 : C = I + 2 := by rw [← hC, ← hH2, Heap.size_push, hD, d1]
  have up1 : ∀ b o, s.heap.get? b = some o → H1.get? b = some o := fun b o e => hH1 ▸ Heap.get?_push_of_some _ e
  have up2 : ∀ b o, H1.get? b = some o → H2.get? b = some o := fun b o e => hH2 ▸ Heap.get?_push_of_some _ e
  have up3 : ∀ b o, b ≠ C → H2.get? b = some o → h₁.get? b = some o := fun b o hb e => hsb₁.extBut b o hb (Heap.get?_push_of_some _ e)
  have lt0 : ∀ b o, s.heap.get? b = some o → b < I := fun b o e => hI ▸ Heap.lt_size e
  have up : ∀ b o, s.heap.get? b = some o → h₁.get? b = some o := fun b o e => up3 b o (Nat.ne_of_lt (Nat.lt_of_lt_of_le (lt0 b o e) (d2 ▸ Nat.le_add_right I 2))) (up2 _ _ (up1 _ _ e))
  have iI : h₁.get? I = some { cls := .type "list_iterator", data := .fields #[.ref l, .int 0 0] } := up3 _ _ (by intro h; rw [d2] at h; omega) (up2 _ _ (by rw [← hH1, ← hI]; exact Heap.get?_push_size _ rfl))
  have iD : h₁.get? D = some (lst [] 0) := up3 _ _ (by intro h; rw [d1, d2] at h; omega) (by rw [← hH2, ← hD]; exact Heap.get?_push_size _ rfl)
  have new : ∀ b, I ≤ b → s.heap.get? b = none := fun b hb => by
    cases e : s.heap.get? b with
    | none => rfl
    | some o => exact absurd (lt0 b o e) (Nat.not_lt.mpr hb)
  have S4 : St s g g (compEnvC scope cl C env) (V cvl) [(I, { cls := .type "list_iterator", data := .fields #[.ref l, .int 0 0] }), (D, lst [] 0)] { s with heap := h₁, toks := s.toks + ([] : List (PySem.Str × Value)).length } := by
    refine ⟨rfl, rfl, ⟨_, hns₁, fun x hx => (hloc x hx).symm⟩, fun x c hc => ?_, ?_, up, fun b o e => up _ _ (S.keep _ _ e), ?_, ?_, Le.refl _, (fun _ _ e => .inr e), hck, hcn, fun _ p hp => ?_⟩
    · obtain ⟨h1, h2⟩ := hcl (x, c) hc
      rw [h2]; exact (S.cell x c h1).keeps up
    · show (C :: ([] ++ [I, D])).Nodup
      simp [d1, d2]
    · intro a ha
      have ha : a ∈ C :: ([] ++ [I, D]) := ha
      have : I ≤ a := by
        simp only [List.nil_append, List.mem_cons, List.not_mem_nil, or_false] at ha
        rcases ha with rfl | rfl | rfl <;> omega
      exact ⟨S.freshG (new a this), new a this⟩
    · intro p hp
      rcases List.mem_cons.mp hp with rfl | hp
      · exact iI
      · rw [List.mem_singleton] at hp; subst hp; exact iD
    · obtain ⟨o, h1, _⟩ := S.cell p.1 p.2 (hcl p hp).1
      exact ⟨o, h1⟩
  have hit : h₁.IsListIter I l 0 := ⟨_, iI, rfl, rfl⟩
  have L0 := loop C I D _ _ S4 hit
  exact codeAny_compStart_list L0 (wpAny_pyIter_listiter hit L0)

/-- the loop without tests, any target -/
theorem loop0 {elt target iter : PySem.Expr} {scope : Scope} {pos : Pos} {it acc : Value} {R : Result → Shared → Prop} (ht : (∀ it v, letOwnedTupleGo target it v = pure ()) ∨ ∃ elts x1 p, target = .Tuple elts x1 p) (I : Nat → Shared → Prop)
    (turn : ∀ n s, I n s → wpAny (model prog w) A (pyNext it) (fun r s₁ => match r with
      | none => R (.ok .next) s₁
      | some v => wpAny (model prog w) A (letOwnedTupleGo target it v) (fun _ s₁' => wpAny (model prog w) A (assign target env v) (fun _ s₂ =>
          wpAny (model prog w) A (eval elt env) (fun x s₄ =>
              wpAny (model prog w) A (call (.builtin "list.append") [acc, x]) (fun _ s₅ => ∃ m, m < n ∧ I m s₅) (notedBy (model prog w) A env fun e s' => R (.error e) s') s₄) (notedBy (model prog w) A env fun e s' => R (.error e) s') s₂)
          (notedBy (model prog w) A env fun e s' => R (.error e) s') s₁') (notedBy (model prog w) A env fun e s' => R (.error e) s') s₁) (notedBy (model prog w) A env fun e s' => R (.error e) s') s)
    (n : Nat) (h : I n s) : codeAny (model prog w) A (.compLoop (.ListComp elt [⟨target, iter, [], 0⟩] scope pos) 0 it acc env) R s := by
  rcases ht with ht | ⟨elts, x1, p, rfl⟩
  · refine codeAny_compLoop_tests I (fun n s hI => wpAny_mono (turn n s hI) (fun r s₁ h₁ => ?_) fun _ _ x => x) n h (ht _)
    cases r with
    | none => exact h₁
    | some v =>
      have h₁' : wpAny (model prog w) A (letOwnedTupleGo target it v) _ _ s₁ := h₁
      rw [ht] at h₁'
      refine wpAny_mono (fun Γ p hΓ => h₁' Γ p hΓ Γ p hΓ) (fun _ s₂ h₂ => wpAny_tests_nil ?_) fun _ _ x => x
      rw [if_pos rfl]; exact h₂
  · exact LCp.codeAny_compLoop_pair I turn n h

theorem comp_loop0 {elt target iter : PySem.Expr} {scope : Scope} {pos : Pos} {cenv : Env} {I D l : Addr} {o : Obj} {vs : List Value} {nl : Nat} {cvl : List (PySem.Str × Value)} {s₄ : Shared} {R : Result → Shared → Prop}
    (hh : A.handled = none) (S4 : St s g g cenv (V cvl) [(I, o), (D, lst [] 0)] s₄) (hit : s₄.heap.IsListIter I l 0) (hl : g l = some (lst vs nl)) (hsz : vs.length ≤ 1000)
    (ht : (∀ it v, letOwnedTupleGo target it v = pure ()) ∨ ((∃ elts x1 p, target = .Tuple elts x1 p) ∧ ∀ v ∈ vs, ∃ T, v = .ref T))
    (J : Nat → List Value → Gh → Prop) (K : List (PySem.Str × Value) → Prop) (h0 : J 0 [] g) (hK : K cvl)
    (step : ∀ i v ys g' cvl pI pD s', vs[i]? = some v → J i ys g' → Le g g' → K cvl → St s g g' cenv (V cvl) [pI, pD] s' →
      wpAny (model prog w) A (assign target cenv v) (fun _ s₂ => wpAny (model prog w) A (eval elt cenv) (fun y s₃ => ∃ g'' cvl', J (i + 1) (ys ++ [y]) g'' ∧ Le g' g'' ∧ K cvl' ∧ St s g g'' cenv (V cvl') [pI, pD] s₃) Never s₂) Never s')
    (fin : ∀ ys n g' cvl s', J vs.length ys g' → Le g g' → St s g g' cenv (V cvl) [(D, lst ys n)] s' → R (.ok .next) s') :
    codeAny (model prog w) A (.compLoop (.ListComp elt [⟨target, iter, [], 0⟩] scope pos) 0 (.ref I) (.ref D) cenv) R s₄ := by
  refine loop0 (ht.imp id fun h => h.1) (fun n s' => ∃ i ys k g' cvl' o', i ≤ vs.length ∧ n = vs.length - i + 1 ∧ ys.length ≤ i ∧ s'.heap.IsListIter I l i ∧ J i ys g' ∧ Le g g' ∧ K cvl' ∧ St s g g' cenv (V cvl') [(I, o'), (D, lst ys k)] s') ?_ (vs.length + 1)
    ⟨0, [], 0, g, cvl, o, Nat.zero_le _, rfl, Nat.le_refl _, hit, h0, Le.refl _, hK, S4⟩
  rintro n s' ⟨i, ys, k, g', cvl', o', hi, rfl, hyl, hit', hJ, hle, hK', S'⟩
  have hl' : s'.heap.IsList l vs.toArray := lst_isList (S'.keep _ _ (hle _ _ hl))
  have hnd := S'.nodup
  unfold prv at hnd
  have hnd := (List.nodup_append.mp (List.nodup_cons.mp hnd).2).2.1
  have hID : I ≠ D := by
    intro e; simp [e] at hnd
  cases hv : vs[i]? with
  | none =>
    have hz : i = vs.length := Nat.le_antisymm hi (by simpa using hv)
    subst hz
    refine wpAny_pyNext_list_end hh hit' hl' (by simpa using hv) fun h₁ he₁ => ?_
    exact fin ys k g' cvl' _ hJ hle (S'.lose rfl rfl he₁)
  | some v =>
    have hlt : i < vs.length := by
      by_cases h : i < vs.length
      · exact h
      · rw [List.getElem?_eq_none (by omega)] at hv; cases hv
    refine wpAny_pyNext_list_item hit' hl' (by simpa using hv) fun h₁ hit₁ hs₁ => ?_
    obtain ⟨o₁, ho₁, hc₁, hd₁⟩ := id hit₁
    have S2 : St s g g' cenv (V cvl') [(I, o₁), (D, lst ys k)] { s' with heap := h₁ } := by
      refine S'.one (a := I) rfl rfl rfl (fun p hp => ?_) List.mem_cons_self fun b ob hb e => (hs₁.2 b hb).trans e
      rcases List.mem_cons.mp hp with rfl | hp
      · exact ho₁
      · rw [List.mem_singleton] at hp; subst hp
        exact (hs₁.2 D (Ne.symm hID)).trans (S'.own (D, lst ys k) (List.mem_cons_of_mem _ List.mem_cons_self))
    have hgo : ∀ {Q' : Unit → Shared → Prop} {E' : Value → Shared → Prop}, Q' () { s' with heap := h₁ } → wpAny (model prog w) A (letOwnedTupleGo target (.ref I) v) Q' E' { s' with heap := h₁ } := by
      intro Q' E' hq
      rcases ht with ht | ⟨⟨elts, x1, p, rfl⟩, ht⟩
      · exact r_eq (ht _ _) hq
      · obtain ⟨T, rfl⟩ := ht v (List.mem_of_getElem? hv)
        exact wpAny_letOwnedTupleGo_listiter hit₁ hq
    refine hgo ?_
    refine wpAny_noRaise (wpAny_mono (step i v ys g' cvl' (I, o₁) (D, lst ys k) _ hv hJ hle hK' S2) (fun _ s₂ h₂ => ?_) fun _ _ x => x)
    · have h₃ := h₂
      refine wpAny_noRaise (wpAny_mono h₃ (fun y s₄ h₄ => ?_) fun _ _ x => x)
      obtain ⟨g'', cvl'', hJ'', hle'', hK'', S3⟩ := h₄
      refine r_app1 S3 (by rw [sizeLine_eq]; omega) fun n' s₅ S5 => ?_
      refine ⟨vs.length - (i + 1) + 1, by omega, i + 1, ys ++ [y], n', g'', cvl'', o₁, hlt, rfl, by simp; omega, ?_, hJ'', Le.trans hle hle'', hK'', S5⟩
      exact ⟨o₁, S5.own (I, o₁) List.mem_cons_self, hc₁, hd₁⟩

theorem comp_loop1 {elt target iter : PySem.Expr} {c : PySem.Expr} {scope : Scope} {pos : Pos} {cenv : Env} {I D l : Addr} {o : Obj} {vs : List Value} {nl : Nat} {cvl : List (PySem.Str × Value)} {s₄ : Shared} {R : Result → Shared → Prop}
    (hh : A.handled = none) (S4 : St s g g cenv (V cvl) [(I, o), (D, lst [] 0)] s₄) (hit : s₄.heap.IsListIter I l 0) (hl : g l = some (lst vs nl)) (hsz : vs.length ≤ 1000)
    (ht : (∀ it v, letOwnedTupleGo target it v = pure ()) ∨ ((∃ elts x1 p, target = .Tuple elts x1 p) ∧ ∀ v ∈ vs, ∃ T, v = .ref T))
    (J : Nat → List Value → Gh → Prop) (K : List (PySem.Str × Value) → Prop) (h0 : J 0 [] g) (hK : K cvl)
    (step : ∀ i v ys g' cvl pI pD s', vs[i]? = some v → J i ys g' → Le g g' → K cvl → St s g g' cenv (V cvl) [pI, pD] s' →
      wpAny (model prog w) A (assign target cenv v) (fun _ s₂ => wpAny (model prog w) A (isTrue c cenv (eval c cenv)) (fun ok s₂' => if ok = true then wpAny (model prog w) A (eval elt cenv) (fun y s₃ => ∃ g'' cvl', J (i + 1) (ys ++ [y]) g'' ∧ Le g' g'' ∧ K cvl' ∧ St s g g'' cenv (V cvl') [pI, pD] s₃) Never s₂' else ∃ g'' cvl', J (i + 1) ys g'' ∧ Le g' g'' ∧ K cvl' ∧ St s g g'' cenv (V cvl') [pI, pD] s₂') Never s₂) Never s')
    (fin : ∀ ys n g' cvl s', J vs.length ys g' → Le g g' → St s g g' cenv (V cvl) [(D, lst ys n)] s' → R (.ok .next) s') :
    codeAny (model prog w) A (.compLoop (.ListComp elt [⟨target, iter, [c], 0⟩] scope pos) 0 (.ref I) (.ref D) cenv) R s₄ := by
  refine kct_loop (fun n s' => ∃ i ys k g' cvl' o', i ≤ vs.length ∧ n = vs.length - i + 1 ∧ ys.length ≤ i ∧ s'.heap.IsListIter I l i ∧ J i ys g' ∧ Le g g' ∧ K cvl' ∧ St s g g' cenv (V cvl') [(I, o'), (D, lst ys k)] s') ?_ (vs.length + 1)
    ⟨0, [], 0, g, cvl, o, Nat.zero_le _, rfl, Nat.le_refl _, hit, h0, Le.refl _, hK, S4⟩
  rintro n s' ⟨i, ys, k, g', cvl', o', hi, rfl, hyl, hit', hJ, hle, hK', S'⟩
  have hl' : s'.heap.IsList l vs.toArray := lst_isList (S'.keep _ _ (hle _ _ hl))
  have hnd := S'.nodup
  unfold prv at hnd
  have hnd := (List.nodup_append.mp (List.nodup_cons.mp hnd).2).2.1
  have hID : I ≠ D := by
    intro e; simp [e] at hnd
  cases hv : vs[i]? with
  | none =>
    have hz : i = vs.length := Nat.le_antisymm hi (by simpa using hv)
    subst hz
    refine wpAny_pyNext_list_end hh hit' hl' (by simpa using hv) fun h₁ he₁ => ?_
    exact fin ys k g' cvl' _ hJ hle (S'.lose rfl rfl he₁)
  | some v =>
    have hlt : i < vs.length := by
      by_cases h : i < vs.length
      · exact h
      · rw [List.getElem?_eq_none (by omega)] at hv; cases hv
    refine wpAny_pyNext_list_item hit' hl' (by simpa using hv) fun h₁ hit₁ hs₁ => ?_
    obtain ⟨o₁, ho₁, hc₁, hd₁⟩ := id hit₁
    have S2 : St s g g' cenv (V cvl') [(I, o₁), (D, lst ys k)] { s' with heap := h₁ } := by
      refine S'.one (a := I) rfl rfl rfl (fun p hp => ?_) List.mem_cons_self fun b ob hb e => (hs₁.2 b hb).trans e
      rcases List.mem_cons.mp hp with rfl | hp
      · exact ho₁
      · rw [List.mem_singleton] at hp; subst hp
        exact (hs₁.2 D (Ne.symm hID)).trans (S'.own (D, lst ys k) (List.mem_cons_of_mem _ List.mem_cons_self))
    have hgo : ∀ {Q' : Unit → Shared → Prop} {E' : Value → Shared → Prop}, Q' () { s' with heap := h₁ } → wpAny (model prog w) A (letOwnedTupleGo target (.ref I) v) Q' E' { s' with heap := h₁ } := by
      intro Q' E' hq
      rcases ht with ht | ⟨⟨elts, x1, p, rfl⟩, ht⟩
      · exact r_eq (ht _ _) hq
      · obtain ⟨T, rfl⟩ := ht v (List.mem_of_getElem? hv)
        exact wpAny_letOwnedTupleGo_listiter hit₁ hq
    refine hgo ?_
    refine wpAny_noRaise (wpAny_mono (step i v ys g' cvl' (I, o₁) (D, lst ys k) _ hv hJ hle hK' S2) (fun _ s₂ h₂ => ?_) fun _ _ x => x)
    refine wpAny_noRaise (wpAny_mono h₂ (fun ok s₃ h₃ => ?_) fun _ _ x => x)
    cases ok with
    | true =>
      rw [if_pos rfl] at h₃ ⊢
      refine wpAny_noRaise (wpAny_mono h₃ (fun y s₄ h₄ => ?_) fun _ _ x => x)
      obtain ⟨g'', cvl'', hJ'', hle'', hK'', S3⟩ := h₄
      refine r_app1 S3 (by rw [sizeLine_eq]; omega) fun n' s₅ S5 => ?_
      refine ⟨vs.length - (i + 1) + 1, by omega, i + 1, ys ++ [y], n', g'', cvl'', o₁, hlt, rfl, by simp; omega, ?_, hJ'', Le.trans hle hle'', hK'', S5⟩
      exact ⟨o₁, S5.own (I, o₁) List.mem_cons_self, hc₁, hd₁⟩
    | false =>
      rw [if_neg (by decide)] at h₃ ⊢
      obtain ⟨g'', cvl'', hJ'', hle'', hK'', S3⟩ := h₃
      refine ⟨vs.length - (i + 1) + 1, by omega, i + 1, ys, k, g'', cvl'', o₁, hlt, rfl, by omega, ?_, hJ'', Le.trans hle hle'', hK'', S3⟩
      exact ⟨o₁, S3.own (I, o₁) List.mem_cons_self, hc₁, hd₁⟩
end
end
section
open PySem PySem.W PySem.Calls PyProof PyProof.Rows
section
variable {prog : Program} {w : World} {A : Around} {E : Value → Shared → Prop} {s₀ s s' : Shared} {g₀ g : Gh} {env : Env} {vl : List (PySem.Str × Value)} {own : List (Addr × Obj)}

theorem ret_sameBut {g' : Gh} {own' : List (Addr × Obj)} {cvl : List (PySem.Str × Value)} {P : Gh → Value → Prop} {v : Value} {h' : Heap} (S : St s g g' env (V cvl) own' s') (hs : Heap.SameBut env.locals s'.heap h') (hP : P g' v) : Ret s g P v { s' with heap := h' } := by
  have hp := S.priv env.locals List.mem_cons_self
  refine ⟨S.gens, S.os, fun a o e => ?_, g', S.mono, fun a o e => ?_, S.gnew, hP⟩
  · exact (hs.2 a fun h => by rw [h, hp.2] at e; cases e).trans (S.base _ _ e)
  · exact (hs.2 a fun h => by rw [h, hp.1] at e; cases e).trans (S.keep _ _ e)

/-- a thing that lies apart becomes private -/
theorem St.adopt {a : Addr} {o : Obj} (S : St s₀ g₀ g env (V vl) own s) (h : s.heap.get? a = some o) (hg : g a = none) (hb : s₀.heap.get? a = none) (hp : a ∉ prv env own) : St s₀ g₀ g env (V vl) ((a, o) :: own) s := by
  have hnd := S.nodup
  have hperm : (prv env ((a, o) :: own)).Perm (a :: prv env own) := by
    unfold prv
    rw [List.map_cons]
    exact (List.Perm.cons _ List.perm_middle).trans (List.Perm.swap _ _ _)
  refine ⟨S.gens, S.os, S.ns, S.cell, hperm.nodup_iff.mpr (List.nodup_cons.mpr ⟨hp, hnd⟩), S.base, S.keep, fun b hb' => ?_, fun p hp' => ?_, S.mono, S.gnew, S.ck, S.cn, S.cfro⟩
  · rcases List.mem_cons.mp (hperm.mem_iff.mp hb') with rfl | h'
    · exact ⟨hg, hb⟩
    · exact S.priv b h'
  · rcases List.mem_cons.mp hp' with rfl | h'
    · exact h
    · exact S.own p h'

/-- a comprehension is opened: its source first -/
theorem r_comp {elt target iter : PySem.Expr} {ifs : List PySem.Expr} {scope : Scope} {pos : Pos} {cl : List (PySem.Str × Addr)} {Q : Value → Shared → Prop}
    (hclos : closureFor scope env = pure cl) (hkind : scope.kind = .function) (hnames : ∀ y ∈ scope.names, y.2 = .local → scope.names.lookup y.1 = some .local)
    (h : wpAny (model prog w) A (eval iter env) (fun x s₁ => wpAny (model prog w) A (pyIter x) (fun it s₂ => wpAny (model prog w) A (newList []) (fun acc s₃ => wpAny (model prog w) A (newFunctionEnv scope env.globals cl [] env.qual none .none (some env)) (fun cenv s₄ =>
      codeAny (model prog w) A (.compStart (.ListComp elt [⟨target, iter, ifs, 0⟩] scope pos) 0 it acc { cenv with scope := relabel scope env }) (compPost (model prog w) A E none Q acc cenv.locals) s₄) E s₃) E s₂) E s₁) E s)
    (hs : ∀ x, foldedSetIterable iter env x = pure x := by intro _; rfl) :
    wpAny (model prog w) A (eval (.ListComp elt [⟨target, iter, ifs, 0⟩] scope pos) env) Q E s := by
  rw [eval_ListComp]
  exact wpAny_comprehension_free (use := none) rfl hs hclos hkind hnames h

/-- the same, its value stored at once -/
theorem r_acomp {elt target iter : PySem.Expr} {ifs : List PySem.Expr} {y : PySem.Str} {py spos : Pos} {scope : Scope} {pos : Pos} {cl : List (PySem.Str × Addr)} {Q : Flow → Shared → Prop}
    (hsw : swapsWith (.ListComp elt [⟨target, iter, ifs, 0⟩] scope pos) (some (.Name y py)) spos.line env = pure true)
    (hclos : closureFor scope env = pure cl) (hkind : scope.kind = .function) (hnames : ∀ y ∈ scope.names, y.2 = .local → scope.names.lookup y.1 = some .local)
    (h : wpAny (model prog w) A (eval iter env) (fun x s₁ => wpAny (model prog w) A (pyIter x) (fun it s₂ => wpAny (model prog w) A (newList []) (fun acc s₃ => wpAny (model prog w) A (newFunctionEnv scope env.globals cl [] env.qual none .none (some env)) (fun cenv s₄ =>
      codeAny (model prog w) A (.compStart (.ListComp elt [⟨target, iter, ifs, 0⟩] scope pos) 0 it acc { cenv with scope := relabel scope env }) (compPost (model prog w) A E (some (assign (.Name y py) env)) (fun _ s' => Q .next s') acc cenv.locals) s₄) E s₃) E s₂) E s₁) E s)
    (hs : ∀ x, foldedSetIterable iter env x = pure x := by intro _; rfl) :
    wpAny (model prog w) A (exec (.Assign [.Name y py] (.ListComp elt [⟨target, iter, ifs, 0⟩] scope pos) spos) env) Q E s := by
  rw [exec_Assign_Name_used _ _ _ _ hsw]
  refine wpAny_bind (wpAny_standAt (wpAny_bind ?_))
  show wpAny _ A (do let _ ← comprehension (.ListComp elt [⟨target, iter, ifs, 0⟩] scope pos) scope env _ (newList []) false (eval iter env) (some (assign (.Name y py) env))) _ _ s
  exact wpAny_bind (wpAny_mono (wpAny_comprehension_free (use := some (assign (.Name y py) env)) (Q := fun _ s' => Q .next s') rfl hs hclos hkind hnames h) (fun _ s' hq => wpAny_pure (wpAny_pure hq)) fun _ _ e => e)

section
variable {elt target iter c : PySem.Expr} {scope : Scope} {pos : Pos} {cl : List (PySem.Str × Addr)} {l : Addr} {vs : List Value} {nl : Nat} {cvl : List (PySem.Str × Value)}
/-- without a test -/
theorem r_go0 {Q : Value → Shared → Prop} (S : St s₀ g₀ g env (V vl) own s) (hh : A.handled = none) (hl : g l = some (lst vs nl)) (hsz : vs.length ≤ 1000)
    (ht : (∀ it v, letOwnedTupleGo target it v = pure ()) ∨ ((∃ elts x1 p, target = .Tuple elts x1 p) ∧ ∀ v ∈ vs, ∃ T, v = .ref T))
    (hcell : ∀ y ∈ scope.names, y.2 ≠ .cell) (hkind : scope.kind = .function)
    (hcl : ∀ p ∈ cl, p ∈ env.cells ∧ V cvl p.1 = V vl p.1) (hck : ∀ p ∈ cl, (relabel scope env).names.lookup p.1 = some .cell) (hcn : (cl.map (·.1)).Nodup)
    (hloc : ∀ x, (relabel scope env).names.lookup x = some .local → V cvl x = none)
    (J : Nat → List Value → Gh → Prop) (K : List (PySem.Str × Value) → Prop) (h0 : J 0 [] g) (hK : K cvl)
    (step : ∀ C i v ys g' cvl pI pD s', vs[i]? = some v → J i ys g' → Le g g' → K cvl → St s g g' (compEnvC scope cl C env) (V cvl) [pI, pD] s' →
      wpAny (model prog w) A (assign target (compEnvC scope cl C env) v) (fun _ s₂ => wpAny (model prog w) A (eval elt (compEnvC scope cl C env)) (fun y s₃ => ∃ g'' cvl', J (i + 1) (ys ++ [y]) g'' ∧ Le g' g'' ∧ K cvl' ∧ St s g g'' (compEnvC scope cl C env) (V cvl') [pI, pD] s₃) Never s₂) Never s')
    (fin : ∀ ys D n g' g'' s', J vs.length ys g' → Le g g'' → Le g' g'' → g'' D = some (lst ys n) → St s₀ g₀ g'' env (V vl) own s' → Q (.ref D) s') :
    wpAny (model prog w) A (pyIter (.ref l)) (fun it s₂ => wpAny (model prog w) A (newList []) (fun acc s₃ => wpAny (model prog w) A (newFunctionEnv scope env.globals cl [] env.qual none .none (some env)) (fun cenv s₄ =>
      codeAny (model prog w) A (.compStart (.ListComp elt [⟨target, iter, [], 0⟩] scope pos) 0 it acc { cenv with scope := relabel scope env }) (compPost (model prog w) A E none Q acc cenv.locals) s₄) E s₃) E s₂) E s := by
  refine comp_block (RR := fun acc C => compPost (model prog w) A E none Q acc C) S hl hcell hkind hcl hck hcn hloc fun C I D o s₄ S4 hit => comp_loop0 hh S4 hit hl hsz ht J K h0 hK (step C) fun ys n g' cvl' s₅ hJ hle S5 => ?_
  obtain ⟨m, hn, _⟩ := S5.ns
  refine ⟨m, hn, fun h' hs' => ?_⟩
  have hin : D ∈ prv (compEnvC scope cl C env) [(D, lst ys n)] := List.mem_cons_of_mem _ (List.mem_append.mpr (.inr List.mem_cons_self))
  obtain ⟨g3, a1, a2, a3, a4⟩ := S.ret (ret_sameBut (P := fun g3 _ => Le g' g3 ∧ g3 D = some (lst ys n)) (v := .none) S5.freeze hs' ⟨Le.set (S5.priv D hin).1, if_pos rfl⟩)
  exact fin ys D n g' g3 _ hJ a1 a3 a4 a2

/-- with one test -/
theorem r_go1 {Q : Value → Shared → Prop} (S : St s₀ g₀ g env (V vl) own s) (hh : A.handled = none) (hl : g l = some (lst vs nl)) (hsz : vs.length ≤ 1000)
    (ht : (∀ it v, letOwnedTupleGo target it v = pure ()) ∨ ((∃ elts x1 p, target = .Tuple elts x1 p) ∧ ∀ v ∈ vs, ∃ T, v = .ref T))
    (hcell : ∀ y ∈ scope.names, y.2 ≠ .cell) (hkind : scope.kind = .function)
    (hcl : ∀ p ∈ cl, p ∈ env.cells ∧ V cvl p.1 = V vl p.1) (hck : ∀ p ∈ cl, (relabel scope env).names.lookup p.1 = some .cell) (hcn : (cl.map (·.1)).Nodup)
    (hloc : ∀ x, (relabel scope env).names.lookup x = some .local → V cvl x = none)
    (J : Nat → List Value → Gh → Prop) (K : List (PySem.Str × Value) → Prop) (h0 : J 0 [] g) (hK : K cvl)
    (step : ∀ C i v ys g' cvl pI pD s', vs[i]? = some v → J i ys g' → Le g g' → K cvl → St s g g' (compEnvC scope cl C env) (V cvl) [pI, pD] s' →
      wpAny (model prog w) A (assign target (compEnvC scope cl C env) v) (fun _ s₂ => wpAny (model prog w) A (isTrue c (compEnvC scope cl C env) (eval c (compEnvC scope cl C env))) (fun ok s₂' => if ok = true then
        wpAny (model prog w) A (eval elt (compEnvC scope cl C env)) (fun y s₃ => ∃ g'' cvl', J (i + 1) (ys ++ [y]) g'' ∧ Le g' g'' ∧ K cvl' ∧ St s g g'' (compEnvC scope cl C env) (V cvl') [pI, pD] s₃) Never s₂'
        else ∃ g'' cvl', J (i + 1) ys g'' ∧ Le g' g'' ∧ K cvl' ∧ St s g g'' (compEnvC scope cl C env) (V cvl') [pI, pD] s₂') Never s₂) Never s')
    (fin : ∀ ys D n g' g'' s', J vs.length ys g' → Le g g'' → Le g' g'' → g'' D = some (lst ys n) → St s₀ g₀ g'' env (V vl) own s' → Q (.ref D) s') :
    wpAny (model prog w) A (pyIter (.ref l)) (fun it s₂ => wpAny (model prog w) A (newList []) (fun acc s₃ => wpAny (model prog w) A (newFunctionEnv scope env.globals cl [] env.qual none .none (some env)) (fun cenv s₄ =>
      codeAny (model prog w) A (.compStart (.ListComp elt [⟨target, iter, [c], 0⟩] scope pos) 0 it acc { cenv with scope := relabel scope env }) (compPost (model prog w) A E none Q acc cenv.locals) s₄) E s₃) E s₂) E s := by
  refine comp_block (RR := fun acc C => compPost (model prog w) A E none Q acc C) S hl hcell hkind hcl hck hcn hloc fun C I D o s₄ S4 hit => comp_loop1 hh S4 hit hl hsz ht J K h0 hK (step C) fun ys n g' cvl' s₅ hJ hle S5 => ?_
  obtain ⟨m, hn, _⟩ := S5.ns
  refine ⟨m, hn, fun h' hs' => ?_⟩
  have hin : D ∈ prv (compEnvC scope cl C env) [(D, lst ys n)] := List.mem_cons_of_mem _ (List.mem_append.mpr (.inr List.mem_cons_self))
  obtain ⟨g3, a1, a2, a3, a4⟩ := S.ret (ret_sameBut (P := fun g3 _ => Le g' g3 ∧ g3 D = some (lst ys n)) (v := .none) S5.freeze hs' ⟨Le.set (S5.priv D hin).1, if_pos rfl⟩)
  exact fin ys D n g' g3 _ hJ a1 a3 a4 a2

/-- without a test, stored at once -/
theorem r_ago0 {y : PySem.Str} {py : Pos} {Q : Shared → Prop} (S : St s₀ g₀ g env (V vl) own s) (hh : A.handled = none) (hl : g l = some (lst vs nl)) (hsz : vs.length ≤ 1000)
    (ht : (∀ it v, letOwnedTupleGo target it v = pure ()) ∨ ((∃ elts x1 p, target = .Tuple elts x1 p) ∧ ∀ v ∈ vs, ∃ T, v = .ref T))
    (hcell : ∀ y ∈ scope.names, y.2 ≠ .cell) (hkind : scope.kind = .function)
    (hcl : ∀ p ∈ cl, p ∈ env.cells ∧ V cvl p.1 = V vl p.1) (hck : ∀ p ∈ cl, (relabel scope env).names.lookup p.1 = some .cell) (hcn : (cl.map (·.1)).Nodup)
    (hloc : ∀ x, (relabel scope env).names.lookup x = some .local → V cvl x = none)
    (J : Nat → List Value → Gh → Prop) (K : List (PySem.Str × Value) → Prop) (h0 : J 0 [] g) (hK : K cvl)
    (step : ∀ C i v ys g' cvl pI pD s', vs[i]? = some v → J i ys g' → Le g g' → K cvl → St s g g' (compEnvC scope cl C env) (V cvl) [pI, pD] s' →
      wpAny (model prog w) A (assign target (compEnvC scope cl C env) v) (fun _ s₂ => wpAny (model prog w) A (eval elt (compEnvC scope cl C env)) (fun y s₃ => ∃ g'' cvl', J (i + 1) (ys ++ [y]) g'' ∧ Le g' g'' ∧ K cvl' ∧ St s g g'' (compEnvC scope cl C env) (V cvl') [pI, pD] s₃) Never s₂) Never s')
    (hy : env.kindOf y = some .local)
    (fin : ∀ ys D n g' g'' s', J vs.length ys g' → Le g g'' → Le g' g'' → g'' D = some (lst ys n) → St s₀ g₀ g'' env (V ((y, .ref D) :: vl)) own s' → Q s')
    (hk : env.scope.kind = .function := by rfl) :
    wpAny (model prog w) A (pyIter (.ref l)) (fun it s₂ => wpAny (model prog w) A (newList []) (fun acc s₃ => wpAny (model prog w) A (newFunctionEnv scope env.globals cl [] env.qual none .none (some env)) (fun cenv s₄ =>
      codeAny (model prog w) A (.compStart (.ListComp elt [⟨target, iter, [], 0⟩] scope pos) 0 it acc { cenv with scope := relabel scope env }) (compPost (model prog w) A E (some (assign (.Name y py) env)) (fun _ s' => Q s') acc cenv.locals) s₄) E s₃) E s₂) E s := by
  refine comp_block (RR := fun acc C => compPost (model prog w) A E (some (assign (.Name y py) env)) (fun _ s' => Q s') acc C) S hl hcell hkind hcl hck hcn hloc fun C I D o s₄ S4 hit => comp_loop0 hh S4 hit hl hsz ht J K h0 hK (step C) fun ys n g' cvl' s₅ hJ hle S5 => ?_
  obtain ⟨m, hn, _⟩ := S5.ns
  have hin : D ∈ prv (compEnvC scope cl C env) [(D, lst ys n)] := List.mem_cons_of_mem _ (List.mem_append.mpr (.inr List.mem_cons_self))
  have S6 := S5.freeze
  have hC := S6.priv C List.mem_cons_self
  obtain ⟨g3, a1, a2, a3, a4, a5⟩ := S.ret (S6.done (P := fun g3 _ => Le g' g3 ∧ g3 D = some (lst ys n) ∧ g3 C = none) (v := .none) ⟨Le.set (S5.priv D hin).1, if_pos rfl, hC.1⟩)
  obtain ⟨oC, es, ep, hoC, hrest⟩ := id hn
  have hCp : C ∉ prv env own := S.freshP hC.2
  have S7 := a2.adopt hoC a5 (S.freshB hC.2) hCp
  show wpAny _ A (assign (.Name y py) env (.ref D)) _ _ _
  refine wpAny_assign_Name (r_sto S7 hy (fun s₈ S8 => ?_) hk)
  refine ⟨m, ⟨oC, es, ep, S8.own (C, oC) List.mem_cons_self, hrest⟩, fun h' hs' => ?_⟩
  exact fin ys D n g' g3 _ hJ a1 a3 a4 (S8.lose rfl rfl hs'.extBut)
end

/-- a frozen list of two, of three, taken apart -/
theorem r_unp2 {a b : PySem.Str} {pa pb pos : Pos} {k : Nat} {t : Addr} {v1 v2 : Value} {n : Nat} {Q : Unit → Shared → Prop} (S : St s₀ g₀ g env (V vl) own s) (hh : A.handled = none) (ht : g t = some (lst [v1, v2] n))
    (h : ∀ s', St s₀ g₀ g env (V vl) own s' → wpAny (model prog w) A (assign (.Name a pa) env v1) (fun _ s₁ => wpAny (model prog w) A (assign (.Name b pb) env v2) Q E s₁) E s') :
    wpAny (model prog w) A (assign (.Tuple [.Name a pa, .Name b pb] k pos) env (.ref t)) Q E s := by
  obtain ⟨m, F, e⟩ := S.fr
  refine kun_list F (news_all s.heap env.locals) (lst_isList (S.keep _ _ ht)) hh (by rfl) (by rfl) fun h' F' N' => ?_
  have S' := S.ofFr (k := s.toks) e F' N' fun p hp => hp
  exact wpAny_assignInOrder_more (wpAny_mono (h _ S') (fun _ _ h₁ => wpAny_assignInOrder_more (wpAny_mono h₁ (fun _ _ h₂ => wpAny_assignInOrder_none h₂) fun _ _ x => x)) fun _ _ x => x)
theorem r_unp3 {a b c : PySem.Str} {pa pb pc pos : Pos} {k : Nat} {t : Addr} {v1 v2 v3 : Value} {n : Nat} {Q : Unit → Shared → Prop} (S : St s₀ g₀ g env (V vl) own s) (hh : A.handled = none) (ht : g t = some (lst [v1, v2, v3] n))
    (h : ∀ s', St s₀ g₀ g env (V vl) own s' → wpAny (model prog w) A (assign (.Name a pa) env v1) (fun _ s₁ => wpAny (model prog w) A (assign (.Name b pb) env v2) (fun _ s₂ => wpAny (model prog w) A (assign (.Name c pc) env v3) Q E s₂) E s₁) E s') :
    wpAny (model prog w) A (assign (.Tuple [.Name a pa, .Name b pb, .Name c pc] k pos) env (.ref t)) Q E s := by
  obtain ⟨m, F, e⟩ := S.fr
  refine kun_list F (news_all s.heap env.locals) (lst_isList (S.keep _ _ ht)) hh (by rfl) (by rfl) fun h' F' N' => ?_
  have S' := S.ofFr (k := s.toks) e F' N' fun p hp => hp
  exact wpAny_assignInOrder_more (wpAny_mono (h _ S') (fun _ _ h₁ => wpAny_assignInOrder_more (wpAny_mono h₁ (fun _ _ h₂ => wpAny_assignInOrder_more (wpAny_mono h₂ (fun _ _ h₃ => wpAny_assignInOrder_none h₃) fun _ _ x => x)) fun _ _ x => x)) fun _ _ x => x)

/-- the same of a list's data -/
theorem r_unp2i {a b : PySem.Str} {pa pb pos : Pos} {k : Nat} {v : Value} {i j : Int} {Q : Unit → Shared → Prop} (S : St s₀ g₀ g env (V vl) own s) (hh : A.handled = none) (hv : Rep g v (.list [.int i, .int j]))
    (h : ∀ t1 t2 s', St s₀ g₀ g env (V vl) own s' → wpAny (model prog w) A (assign (.Name a pa) env (.int i t1)) (fun _ s₁ => wpAny (model prog w) A (assign (.Name b pb) env (.int j t2)) Q E s₁) E s') :
    wpAny (model prog w) A (assign (.Tuple [.Name a pa, .Name b pb] k pos) env v) Q E s := by
  obtain ⟨bp, wp, np, rfl, hbp, hrbp⟩ := hv.list_inv
  cases hrbp with
  | cons hk1 hrbp =>
  cases hrbp with
  | cons hk2 hrbp =>
  cases hrbp
  obtain ⟨tk1, rfl⟩ := hk1.int_inv
  obtain ⟨tk2, rfl⟩ := hk2.int_inv
  exact r_unp2 S hh hbp fun s' S' => h tk1 tk2 s' S'
theorem r_unp3i {a b c : PySem.Str} {pa pb pc pos : Pos} {k : Nat} {v : Value} {i j : Int} {x : PySem.Str} {Q : Unit → Shared → Prop} (S : St s₀ g₀ g env (V vl) own s) (hh : A.handled = none) (hv : Rep g v (.list [.int i, .int j, .str x]))
    (h : ∀ t1 t2 t3 s', St s₀ g₀ g env (V vl) own s' → wpAny (model prog w) A (assign (.Name a pa) env (.int i t1)) (fun _ s₁ => wpAny (model prog w) A (assign (.Name b pb) env (.int j t2)) (fun _ s₂ => wpAny (model prog w) A (assign (.Name c pc) env (.str x t3)) Q E s₂) E s₁) E s') :
    wpAny (model prog w) A (assign (.Tuple [.Name a pa, .Name b pb, .Name c pc] k pos) env v) Q E s := by
  obtain ⟨bp, wp, np, rfl, hbp, hrbp⟩ := hv.list_inv
  cases hrbp with
  | cons hk1 hrbp =>
  cases hrbp with
  | cons hk2 hrbp =>
  cases hrbp with
  | cons hk3 hrbp =>
  cases hrbp
  obtain ⟨tk1, rfl⟩ := hk1.int_inv
  obtain ⟨tk2, rfl⟩ := hk2.int_inv
  obtain ⟨tk3, rfl⟩ := hk3.str_inv
  exact r_unp3 S hh hbp fun s' S' => h tk1 tk2 tk3 s' S'

/-- a slice of a frozen list -/
theorem r_lsl {value slice : PySem.Expr} {l : Addr} {vs ws : List Value} {n : Nat} {va vb : Value} {lo hi : Option Int} {Q : Value → Shared → Prop} (S : St s₀ g₀ g env (V vl) own s) (hl : g l = some (lst vs n)) (hsz : vs.length ≤ sizeLine)
    (pa : IsPart va lo) (pb : IsPart vb hi) (hp : slicePick vs.toArray lo hi none = ws.toArray) (h : ∀ a g' s', Le g g' → g' a = some (lst ws 0) → St s₀ g₀ g' env (V vl) own s' → Q (.ref a) s')
    (hs : subscripted slice false (.ref l) (.ref s.heap.objs.size) = operate [.ref s.heap.objs.size, .ref l] (getItem (.ref l) (.ref s.heap.objs.size)) := by with_unfolding_all rfl) :
    wpAny (model prog w) A (subscriptTail value slice (.ref l) (.ref s.heap.objs.size)) Q E { s with heap := s.heap.push { cls := .type "slice", data := .fields #[va, vb, .none] } } := by
  have S1 := S.push { cls := .type "slice", data := .fields #[va, vb, .none] }
  have hl1 := lst_isList (S1.keep _ _ hl)
  refine tail_any hl1.typeIs slot_list_getitem.lookup (wpAny_getItem_list_slice hl1 ⟨_, Heap.get?_push_size _ rfl, rfl, rfl⟩ pa pb .none (by intro x; cases x) ?_ (by simpa using hsz)) hs
  rw [hp]
  exact h _ _ _ S1.sizeLe (if_pos rfl) (S1.pushG (lst ws 0))

/-- two frozen lists put together -/
theorem r_ladd {a b : Addr} {vs ws : List Value} {n k : Nat} {Q : Value → Shared → Prop} (S : St s₀ g₀ g env (V vl) own s) (ha : g a = some (lst vs n)) (hb : g b = some (lst ws k)) (hsz : vs.length + ws.length ≤ sizeLine)
    (h : ∀ a g' s', Le g g' → g' a = some (lst (vs ++ ws) 0) → St s₀ g₀ g' env (V vl) own s' → Q (.ref a) s') : wpAny (model prog w) A (binaryOp .Add (.ref a) (.ref b)) Q E s := by
  obtain ⟨m, F, e⟩ := S.fr
  refine add_lists F (news_all s.heap env.locals) (lst_isList (S.keep _ _ ha)) (lst_isList (S.keep _ _ hb)) (fun h' F' N' => ?_) hsz
  have S1 := S.ofFr (k := s.toks) e F' N' fun p hp => List.mem_cons_of_mem _ hp
  have hn : h'.get? s.heap.objs.size = some (lst (vs ++ ws) 0) := (N' _ List.mem_cons_self).1
  have hf : s.heap.get? s.heap.objs.size = none := by
    cases e : s.heap.get? s.heap.objs.size with
    | none => rfl
    | some o => exact absurd (Heap.lt_size e) (Nat.lt_irrefl _)
  have S2 := S1.adopt hn (S.freshG hf) (S.freshB hf) (S.freshP hf)
  exact h _ _ _ S.sizeLe (if_pos rfl) S2.freeze

theorem St.freezeE {a : Addr} {o : Obj} (S : St s₀ g₀ g env (V vl) ((a, o) :: own) s) : ∃ g', Le g g' ∧ g' a = some o ∧ St s₀ g₀ g' env (V vl) own s := by
  have hin : a ∈ prv env ((a, o) :: own) := List.mem_cons_of_mem _ (List.mem_append.mpr (.inr List.mem_cons_self))
  exact ⟨_, Le.set (S.priv a hin).1, if_pos rfl, S.freeze⟩
theorem loc_none {names : List (PySem.Str × NameKind)} {cvl : List (PySem.Str × Value)} (h : ∀ p ∈ cvl, names.lookup p.1 ≠ some .local) : ∀ x, names.lookup x = some .local → V cvl x = none := by
  intro x hx
  cases e : V cvl x with
  | none => rfl
  | some v => exact absurd hx (h (x, v) (mem_of_lookup e))
theorem Reps.refs {vs : List Value} {ds : List PyData} (h : Reps g vs ds) (hd : ∀ d ∈ ds, ∃ xs, d = .list xs) : ∀ v ∈ vs, ∃ T, v = .ref T := by
  intro v hv
  obtain ⟨i, hi⟩ := List.getElem?_of_mem hv
  obtain ⟨d, hd1, hd2⟩ := h.getV hi
  obtain ⟨xs, rfl⟩ := hd d (List.mem_of_getElem? hd1)
  obtain ⟨a, _, _, rfl, _⟩ := hd2.list_inv
  exact ⟨a, rfl⟩
end
end
section
open PySem PySem.W PySem.Calls PyProof PyProof.Rows
section
variable {prog : Program} {w : World} {A : Around} {E : Value → Shared → Prop} {s₀ s : Shared} {g₀ g : Gh} {env : Env} {vl : List (PySem.Str × Value)} {own : List (Addr × Obj)}

noncomputable def rng (n : Nat) (t u v : Tok) : Obj := { cls := .type "range", dict := none, data := .fields #[.int 0 t, .int n u, .int 1 v], slots := #[] }
theorem r_range {k : Int} {n : Nat} {t : Tok} {Q : Value → Shared → Prop} (S : St s₀ g₀ g env (V vl) own s) (hk : k = n) (h : ∀ a g' s' t u v, Le g g' → g' a = some (rng n t u v) → St s₀ g₀ g' env (V vl) own s' → Q (.ref a) s') :
    wpAny (model prog w) A (call (.type "range") [.int k t]) Q E s := by
  subst hk
  exact call_range_1 (h _ _ _ _ _ _ S.sizeLe (if_pos rfl) ((S.pushG (rng n s.toks t (s.toks + 1))).toks _))

theorem rng_small {n : Nat} (h : n ≤ 1000) : Builtin.Range.small 0 n 1 = true ∧ Builtin.Range.rangeSize 0 n 1 = n := by
  have e : Builtin.Range.rangeSize 0 n 1 = n := by
    unfold Builtin.Range.rangeSize
    by_cases h0 : (0 : Int) < n
    · rw [if_pos (by decide), if_pos h0]; omega
    · have : (n : Int) = 0 := by omega
      simp [this]
  refine ⟨?_, e⟩
  unfold Builtin.Range.small
  rw [e]
  unfold Builtin.Range.rangeFitsLong
  simp
  omega

/-- a for over a range -/
theorem r_forR {target : PySem.Expr} {body : List Stmt} {Q : Flow → Shared → Prop} {l : Addr} {n : Nat} {t u v : Tok}
    (hh : A.handled = none) (S : St s₀ g₀ g env (V vl) own s) (hl : g l = some (rng n t u v)) (hn : n ≤ 1000)
    (J : Nat → List (PySem.Str × Value) → Gh → List (Addr × Obj) → Prop) (h0 : J 0 vl g own)
    (step : ∀ i t vl' g' own' it s' (R : Flow → Shared → Prop), Cont (fun f s₃ => match f with
        | .next | .cont => ∃ vl'' g'' own'', St s₀ g₀ g'' env (V vl'') (own'' ++ [it]) s₃ ∧ Le g' g'' ∧ J (i + 1) vl'' g'' own''
        | .brk => Q .next s₃
        | .ret v => Q (.ret v) s₃) R → i < n → J i vl' g' own' → Le g g' → St s₀ g₀ g' env (V vl') (own' ++ [it]) s' →
      wpAny (model prog w) A (assign target env (.int (i : Nat) t)) (fun _ s₂ => wpAny (model prog w) A (execs body env) R Never s₂) Never s')
    (fin : ∀ vl' g' own' s', J n vl' g' own' → Le g g' → St s₀ g₀ g' env (V vl') own' s' → Q .next s')
    (ht : ∀ it v, letOwnedTupleGo target it v = pure ()) :
    wpAny (model prog w) A (pyIter (.ref l)) (fun it s₂ => codeAny (model prog w) A (.forLoop target it body [] env) (fun r s' => match r with | .ok f => Q f s' | .error e => cameBackBy (model prog w) A env E e s') s₂) E s := by
  obtain ⟨hsm, hsz⟩ := rng_small hn
  refine wpAny_pyIter_range (S.keep _ _ hl) hsm ?_
  rw [hsz]
  have S1 := S.push1 { cls := .type "range_iterator", data := .fields #[rawInt 0, rawInt n, rawInt 1] }
  generalize hIt : s.heap.objs.size = I at S1 ⊢
  refine codeAny_forLoop (fun k s' => ∃ (i : Nat) (vl' : List (PySem.Str × Value)) (g' : Gh) (own' : List (Addr × Obj)) (o : Obj), i ≤ n ∧ k = n - i + 1 ∧ IsRangeIter s'.heap I i ((n : Int) - i) 1 ∧ J i vl' g' own' ∧ Le g g' ∧ St s₀ g₀ g' env (V vl') (own' ++ [(I, o)]) s') ?_ (n + 1) ?_ (ht _)
  · rintro k s' ⟨i, vl', g', own', o, hi, rfl, hit, hJ, hle, S'⟩
    have hmem : I ∈ (own' ++ [(I, o)]).map (·.1) := by simp
    by_cases hlt : i < n
    · refine wpAny_pyNext_range_item hit (by omega) fun h₁ hit₁ hs₁ => ?_
      have S2 : St s₀ g₀ g' env (V vl') (own' ++ [(I, { cls := .type "range_iterator", dict := none, data := .fields #[rawInt ((i : Int) + 1), rawInt ((n : Int) - i - 1), rawInt 1], slots := #[] })]) { s' with heap := h₁, toks := s'.toks + 1 } := by
        refine S'.one (a := I) rfl rfl (by simp) (fun p hp => ?_) hmem fun b ob hb e => (hs₁.2 b hb).trans e
        rcases List.mem_append.mp hp with hp | hp
        · have hne : p.1 ≠ I := by
            intro e
            have hnd := S'.nodup
            unfold prv at hnd
            rw [List.map_append, List.nodup_cons, List.nodup_append, List.nodup_append] at hnd
            exact hnd.2.2.1.2.2 p.1 (List.mem_map.mpr ⟨p, hp, rfl⟩) I (by simp) e
          exact (hs₁.2 p.1 hne).trans (S'.own p (List.mem_append.mpr (.inl hp)))
        · rw [List.mem_singleton] at hp; subst hp; exact hit₁
      refine wpAny_noRaise (wpAny_mono (step i _ vl' g' own' _ _ _ (fun _ _ h => h) hlt hJ hle S2) (fun _ s₂ h₂ => ?_) fun _ _ x => x)
      refine wpAny_noRaise (wpAny_mono h₂ (fun f s₃ h₃ => ?_) fun _ _ x => x)
      have goOn : (∃ vl'' g'' own'', St s₀ g₀ g'' env (V vl'') (own'' ++ [(I, { cls := .type "range_iterator", dict := none, data := .fields #[rawInt ((i : Int) + 1), rawInt ((n : Int) - i - 1), rawInt 1], slots := #[] })]) s₃ ∧ Le g' g'' ∧ J (i + 1) vl'' g'' own'') →
          ∃ m, m < n - i + 1 ∧ ∃ (i : Nat) (vl' : List (PySem.Str × Value)) (g' : Gh) (own' : List (Addr × Obj)) (o : Obj), i ≤ n ∧ m = n - i + 1 ∧ IsRangeIter s₃.heap I i ((n : Int) - i) 1 ∧ J i vl' g' own' ∧ Le g g' ∧ St s₀ g₀ g' env (V vl') (own' ++ [(I, o)]) s₃ := by
        rintro ⟨vl'', g'', own'', S3, hle', hJ'⟩
        refine ⟨n - (i + 1) + 1, by omega, i + 1, vl'', g'', own'', _, hlt, rfl, ?_, hJ', Le.trans hle hle', S3⟩
        have := S3.own (I, _) (List.mem_append.mpr (.inr (List.mem_singleton.mpr rfl)))
        have e : (n : Int) - ((i + 1 : Nat) : Int) = (n : Int) - i - 1 := by omega
        show s₃.heap.get? I = _
        rw [e]
        exact this
      cases f with
      | next => exact goOn h₃
      | cont => exact goOn h₃
      | brk => exact h₃
      | ret v => exact h₃
    · have hz : i = n := by omega
      subst hz
      refine wpAny_pyNext_range_end hh hit (by omega) fun h₁ he₁ => wpAny_execs_nil (fin vl' g' own' _ hJ hle ?_)
      exact (S'.perm (List.perm_append_comm (l₁ := own') (l₂ := [(I, o)]))).lose rfl rfl he₁
  · refine ⟨0, vl, g, own, _, Nat.zero_le _, rfl, ?_, h0, Le.refl _, S1.perm (List.perm_append_comm (l₁ := [(I, _)]) (l₂ := own))⟩
    have := S1.own _ List.mem_cons_self
    simpa using this
end
end
section
open PySem PySem.W PySem.Calls PyProof PyProof.Rows
section
variable {prog : Program} {w : World} {A : Around} {E : Value → Shared → Prop} {s₀ s : Shared} {g₀ g : Gh} {env : Env} {vl : List (PySem.Str × Value)} {own : List (Addr × Obj)}
noncomputable def edict : Obj := { cls := .type "dict", data := .dict #[] }
theorem size_big {mg : PySem.Str → Option Value} (S : St s₀ g₀ g env (V vl) own s) (T : Top0 g mg) : 3 < s.heap.objs.size := (T.gl.at S.keep).lt

/-- a dict display of texts -/
theorem r_dict {mg : PySem.Str → Option Value} {keys : List (Option PySem.Expr)} {values : List PySem.Expr} {pos : Pos} {pairs : List (Sem Value × Sem Value)} {Q : Value → Shared → Prop} (S : St s₀ g₀ g env (V vl) own s) (T : Top0 g mg)
    (hpairs : ((keys.filterMap id).map fun k => eval k env).zip ((evalEach values env).map fun v => do let x ← v; standAt pos; pure x) = pairs)
    (h0 : pairs ≠ []) (hlen : pairs.length ≤ 15)
    (h : ∀ d s', (d == sysModules) = false → St s₀ g₀ g env (V vl) ((d, edict) :: own) s' → wpAny (model prog w) A (evalPairs pairs) (fun vs s₁ => ∃ kvs, Carries (strKind prog w) vs kvs ∧ (kvs.map (·.1)).Nodup ∧ St s₀ g₀ g env (V vl) ((d, edict) :: own) s₁ ∧
      ∀ o s₂, o.IsDictOf (strKind prog w) kvs → St s₀ g₀ g env (V vl) ((d, o) :: own) s₂ → Q (.ref d) s₂) E s')
    (hshape : (evalEachOpt keys env).zip ((evalEach values env).map fun v => do let x ← v; standAt pos; pure x) = (((keys.filterMap id).map fun k => eval k env).zip ((evalEach values env).map fun v => do let x ← v; standAt pos; pure x)).map fun p => (some p.1, p.2) := by rfl) :
    wpAny (model prog w) A (eval (.Dict keys values pos) env) Q E s := by
  subst hpairs
  have hb := size_big S T
  refine wpAny_Dict_pairs (knd := strKind prog w) hshape h0 hlen (wpAny_mono (h s.heap.objs.size _ (beq_eq_false_iff_ne.mpr (Nat.ne_of_gt (Nat.lt_trans (by decide : (1 : Nat) < 3) hb))) (S.push1 edict)) (fun vs s₁ h₁ => ?_) fun _ _ x => x)
  obtain ⟨kvs, hc, hn, S1, hq⟩ := h₁
  refine ⟨kvs, hc, ⟨edict, #[], 0, S1.own (s.heap.objs.size, edict) List.mem_cons_self, ⟨rfl, rfl, rfl⟩, rfl, fun e he => by simp at he, .nil, by simp⟩, fun h' hd hs => ?_⟩
  rw [merged_nil_of_nodup kvs hn] at hd
  obtain ⟨o, es, ep, ho, hr⟩ := hd
  refine hq o _ ⟨es, ep, hr⟩ (S1.one (a := s.heap.objs.size) rfl rfl rfl (fun p hp => ?_) List.mem_cons_self fun b ob hb e => (hs.2 b hb).trans e)
  rcases List.mem_cons.mp hp with rfl | hp
  · exact ho
  · refine (hs.2 p.1 fun e => ?_).trans (S1.own p (List.mem_cons_of_mem _ hp))
    have hnd := S1.nodup
    unfold prv at hnd
    have := (List.nodup_append.mp (List.nodup_cons.mp hnd).2).2.1
    rw [List.map_cons, List.nodup_cons] at this
    exact this.1 (List.mem_map.mpr ⟨p, hp, e⟩)

theorem dictOf_own {d : Addr} {o : Obj} {kvs : List (PySem.Str × Value)} {h : Heap} (e : h.get? d = some o) (hd : o.IsDictOf (strKind prog w) kvs) : h.DictOf (strKind prog w) d kvs := let ⟨es, ep, r⟩ := hd; ⟨o, es, ep, e, r⟩

/-- d.update(e), both private, e behind d's making -/
theorem r_update {d e : Addr} {o oe : Obj} {kvs more : List (PySem.Str × Value)} {Q : Value → Shared → Prop} (S : St s₀ g₀ g env (V vl) ((e, oe) :: (d, o) :: own) s) (hsys : (e == sysModules) = false)
    (hd : o.IsDictOf (strKind prog w) kvs) (he : oe.IsDictOf (strKind prog w) more) (hsz : kvs.length + more.length ≤ sizeLine) (hn : ((kvs ++ more).map (·.1)).Nodup)
    (h : ∀ o' s', o'.IsDictOf (strKind prog w) (kvs ++ more) → St s₀ g₀ g env (V vl) ((d, o') :: own) s' → Q .none s') : wpAny (model prog w) A (call (.builtin "dict.update") [.ref d, .ref e]) Q E s := by
  have hnd := S.nodup
  unfold prv at hnd
  have hnd := (List.nodup_append.mp (List.nodup_cons.mp hnd).2).2.1
  rw [List.map_cons, List.map_cons, List.nodup_cons, List.nodup_cons] at hnd
  have hde : d ≠ e := fun x => hnd.1 (x ▸ List.mem_cons_self)
  have h1 := dictOf_own (S.own (d, o) (List.mem_cons_of_mem _ List.mem_cons_self)) hd
  have h2 := dictOf_own (S.own (e, oe) List.mem_cons_self) he
  refine call_meetsIn PySem.F.slot_dict_update h1.typeIs PySem.F.entry_dict_update (PySem.F.args_dict_update_2 _ _) (meets_dict_update (strKind prog w) d e hde hsys) ⟨kvs, more, h1, h2, hsz, fun h' a1 _ hs => ?_⟩
  rw [merged_append_of_fresh kvs more hn] at a1
  obtain ⟨o', es, ep, ho, hr⟩ := a1
  have S' := S.drop (List.sublist_cons_self (e, oe) ((d, o) :: own))
  refine h o' _ ⟨es, ep, hr⟩ (S'.one (a := d) rfl rfl rfl (fun p hp => ?_) List.mem_cons_self fun b ob hb e => (hs.2 b hb).trans e)
  rcases List.mem_cons.mp hp with rfl | hp
  · exact ho
  · exact (hs.2 p.1 fun e => hnd.2.1 (List.mem_map.mpr ⟨p, hp, e⟩)).trans (S'.own p (List.mem_cons_of_mem _ hp))

/-- a method of one argument upon a private dict, opened -/
theorem r_meth_update {x : PySem.Str} {px apos pos : Pos} {ex : PySem.Expr} {d : Addr} {o : Obj} {kvs : List (PySem.Str × Value)} {Q : Value → Shared → Prop} (S : St s₀ g₀ g env (V vl) ((d, o) :: own) s) (hd : o.IsDictOf (strKind prog w) kvs)
    (hx : wpAny (model prog w) A (eval (.Name x px) env) (fun v s' => v = .ref d ∧ s' = s) E s)
    (hbase : attributeBase (.Name x px) "update" env (eval (.Name x px) env) = eval (.Name x px) env) (hline : (apos.endLine == pos.line) = true)
    (htrees : backTo pos (starEach [ex] env) = [(false, eval ex env)])
    (h : wpAny (model prog w) A (eval ex env) (fun y s₂ => wpAny (model prog w) A (call (.builtin "dict.update") [.ref d, y]) Q E s₂) E s) :
    wpAny (model prog w) A (eval (.Call (.Attribute (.Name x px) "update" apos) [ex] [] pos) env) Q E s := by
  refine wpAny_Call_method1_late hbase hline htrees (wpAny_mono hx (fun v s' hv => ?_) fun _ _ x => x)
  obtain ⟨rfl, rfl⟩ := hv
  have h1 := dictOf_own (S.own (d, o) List.mem_cons_self) hd
  refine ⟨"dict", "dict.update", PySem.F.plainAttrs_dict, PySem.F.slot_dict_update, PySem.F.type_dict_update, h1.typeIs, h1.mapOf.noDict, ?_⟩
  exact callWith_builtin rfl (evalArgs_plain (spliced_cons (wpAny_mono h (fun y s₂ h₂ => spliced_nil h₂) fun _ _ e => e)))

/-- a private dict is frozen -/
theorem dictG_of {d : Addr} {o : Obj} {kvs : List (PySem.Str × Value)} (e : g d = some o) (hd : o.IsDictOf (strKind prog w) kvs) : DictG prog w g d (valueAt kvs) := by
  obtain ⟨es, ep, hc, hdat, hk, hp, _⟩ := hd
  refine ⟨o, es, ep, e, hc, hdat, hk, fun k => ?_⟩
  rw [← hp.find k]
  obtain ⟨l⟩ := es
  simp [findBy]

/-- a display of written texts and ints -/
noncomputable def kc : Option PySem.Expr → Option PySem.Str
  | some (.Constant (.str x) _ _) => some x
  | _ => none
noncomputable def vc : PySem.Expr → Option Int
  | .Constant (.int i) _ _ => some i
  | _ => none
theorem kc_inv {k : Option PySem.Expr} {x : PySem.Str} (h : kc k = some x) : ∃ a b, k = some (.Constant (.str x) a b) := by
  unfold kc at h
  split at h
  · cases h; exact ⟨_, _, rfl⟩
  · cases h
theorem vc_inv {v : PySem.Expr} {i : Int} (h : vc v = some i) : ∃ a b, v = .Constant (.int i) a b := by
  unfold vc at h
  split at h
  · cases h; exact ⟨_, _, rfl⟩
  · cases h
noncomputable def conK : List (Option PySem.Expr) → List PySem.Expr → Option (List (PySem.Str × Int))
  | [], [] => some []
  | k :: ks, v :: vs => match kc k with
    | some x => match vc v with
      | some i => (conK ks vs).map ((x, i) :: ·)
      | none => none
    | none => none
  | _, _ => none
theorem conK_inv {k : Option PySem.Expr} {ks : List (Option PySem.Expr)} {values : List PySem.Expr} {ps : List (PySem.Str × Int)} (h : conK (k :: ks) values = some ps) :
    ∃ x a b i c d vs qs, k = some (.Constant (.str x) a b) ∧ values = .Constant (.int i) c d :: vs ∧ conK ks vs = some qs ∧ ps = (x, i) :: qs := by
  cases values with
  | nil => cases h
  | cons v vs =>
    unfold conK at h
    cases hk : kc k with
    | none => rw [hk] at h; cases h
    | some x =>
      rw [hk] at h
      cases hv : vc v with
      | none => rw [hv] at h; cases h
      | some i =>
        rw [hv] at h
        obtain ⟨qs, hq, e⟩ := Option.map_eq_some_iff.mp h
        obtain ⟨a, b, rfl⟩ := kc_inv hk
        obtain ⟨c, d, rfl⟩ := vc_inv hv
        exact ⟨x, a, b, i, c, d, vs, qs, rfl, rfl, hq, e.symm⟩
inductive KI : List (PySem.Str × Int) → List (PySem.Str × Value) → Prop
  | nil : KI [] []
  | cons {x : PySem.Str} {i : Int} {t : Tok} {ps kvs} : KI ps kvs → KI ((x, i) :: ps) ((x, .int i t) :: kvs)
theorem KI.fst : ∀ {ps : List (PySem.Str × Int)} {kvs : List (PySem.Str × Value)}, KI ps kvs → kvs.map (·.1) = ps.map (·.1)
  | _, _, .nil => rfl
  | _, _, .cons h => by rw [List.map_cons, List.map_cons, KI.fst h]
theorem KI.append : ∀ {ps qs : List (PySem.Str × Int)} {kvs more : List (PySem.Str × Value)}, KI ps kvs → KI qs more → KI (ps ++ qs) (kvs ++ more)
  | _, _, _, _, .nil, h => h
  | _, _, _, _, .cons h, k => .cons (KI.append h k)
theorem KI.length {ps : List (PySem.Str × Int)} {kvs : List (PySem.Str × Value)} (h : KI ps kvs) : kvs.length = ps.length := by
  have := congrArg List.length h.fst
  simpa using this
theorem KI.value {k : PySem.Str} {i : Int} : ∀ {ps : List (PySem.Str × Int)} {kvs : List (PySem.Str × Value)}, KI ps kvs → (ps.find? fun p => p.1 = k).map (·.2) = some i → ∃ t, valueAt kvs k = some (.int i t)
  | _, _, .nil, h => by cases h
  | _, _, .cons (x := x) (i := j) (t := t) (kvs := kvs) r, h => by
    unfold valueAt
    rw [List.find?_cons] at h ⊢
    by_cases e : x = k
    · simp only [e, decide_true] at h ⊢
      cases h
      exact ⟨t, rfl⟩
    · simp only [e, decide_false] at h ⊢
      exact KI.value r h

theorem evalPairs_con {pos : Pos} : ∀ {keys : List (Option PySem.Expr)} {values : List PySem.Expr} {ps : List (PySem.Str × Int)} {s : Shared} {Q : List (Value × Value) → Shared → Prop}, conK keys values = some ps → St s₀ g₀ g env (V vl) own s →
    (∀ vs kvs s₁, KI ps kvs → Carries (strKind prog w) vs kvs → St s₀ g₀ g env (V vl) own s₁ → Q vs s₁) →
    wpAny (model prog w) A (evalPairs (((keys.filterMap id).map fun k => eval k env).zip ((evalEach values env).map fun v => do let x ← v; standAt pos; pure x))) Q E s := by
  intro keys
  induction keys with
  | nil =>
    intro values ps s Q h S hQ
    cases values with
    | nil => cases h; exact evalPairs_nil (hQ [] [] s .nil trivial S)
    | cons v r => cases h
  | cons k keys ih =>
    intro values ps s Q h S hQ
    obtain ⟨x, a, b, i, c, d, vs, qs, rfl, rfl, hq, rfl⟩ := conK_inv h
    have e : ((((some (PySem.Expr.Constant (.str x) a b) :: keys).filterMap id).map fun k => eval k env).zip ((evalEach (.Constant (.int i) c d :: vs) env).map fun v => do let x ← v; standAt pos; pure x)) =
        (eval (.Constant (.str x) a b) env, (do let x ← eval (.Constant (.int i) c d) env; standAt pos; pure x)) :: (((keys.filterMap id).map fun k => eval k env).zip ((evalEach vs env).map fun v => do let x ← v; standAt pos; pure x)) := rfl
    rw [e]
    refine evalPairs_cons (r_str S fun t s1 S1 => wpAny_bind (r_int S1 fun t2 s2 S2 => wpAny_bind (wpAny_standAt (wpAny_pure ?_))))
    exact ih hq S2 fun vs kvs s3 hk hc S3 => hQ _ ((x, .int i t2) :: kvs) s3 (.cons hk) ⟨strKind_is prog w x t, rfl, hc⟩ S3
theorem con_shape {pos : Pos} : ∀ {keys : List (Option PySem.Expr)} {values : List PySem.Expr} {ps : List (PySem.Str × Int)}, conK keys values = some ps →
    (evalEachOpt keys env).zip ((evalEach values env).map fun v => do let x ← v; standAt pos; pure x) = (((keys.filterMap id).map fun k => eval k env).zip ((evalEach values env).map fun v => do let x ← v; standAt pos; pure x)).map (fun p => (some p.1, p.2)) ∧
    (((keys.filterMap id).map fun k => eval k env).zip ((evalEach values env).map fun v => do let x ← v; standAt pos; pure x)).length = ps.length := by
  intro keys
  induction keys with
  | nil =>
    intro values ps h
    cases values with
    | nil => cases h; exact ⟨rfl, rfl⟩
    | cons v r => cases h
  | cons k keys ih =>
    intro values ps h
    obtain ⟨x, a, b, i, c, d, vs, qs, rfl, rfl, hq, rfl⟩ := conK_inv h
    obtain ⟨e1, e2⟩ := ih hq
    have e : ((((some (PySem.Expr.Constant (.str x) a b) :: keys).filterMap id).map fun k => eval k env).zip ((evalEach (.Constant (.int i) c d :: vs) env).map fun v => do let x ← v; standAt pos; pure x)) =
        (eval (.Constant (.str x) a b) env, (do let x ← eval (.Constant (.int i) c d) env; standAt pos; pure x)) :: (((keys.filterMap id).map fun k => eval k env).zip ((evalEach vs env).map fun v => do let x ← v; standAt pos; pure x)) := rfl
    have e' : (evalEachOpt (some (PySem.Expr.Constant (.str x) a b) :: keys) env).zip ((evalEach (.Constant (.int i) c d :: vs) env).map fun v => do let x ← v; standAt pos; pure x) =
        (some (eval (.Constant (.str x) a b) env), (do let x ← eval (.Constant (.int i) c d) env; standAt pos; pure x)) :: (evalEachOpt keys env).zip ((evalEach vs env).map fun v => do let x ← v; standAt pos; pure x) := rfl
    rw [e, e', List.map_cons, List.length_cons, List.length_cons, e2, e1]
    exact ⟨rfl, rfl⟩
/-- such a display -/
theorem r_dictC {mg : PySem.Str → Option Value} {keys : List (Option PySem.Expr)} {values : List PySem.Expr} {pos : Pos} {ps : List (PySem.Str × Int)} {Q : Value → Shared → Prop} (S : St s₀ g₀ g env (V vl) own s) (T : Top0 g mg)
    (hc : conK keys values = some ps) (hn : (ps.map (·.1)).Nodup) (h0 : 0 < ps.length) (hlen : ps.length ≤ 15)
    (h : ∀ d o kvs s', (d == sysModules) = false → KI ps kvs → o.IsDictOf (strKind prog w) kvs → St s₀ g₀ g env (V vl) ((d, o) :: own) s' → Q (.ref d) s') :
    wpAny (model prog w) A (eval (.Dict keys values pos) env) Q E s := by
  obtain ⟨e1, e2⟩ := con_shape (env := env) (pos := pos) hc
  refine r_dict S T rfl (fun e => ?_) (by rw [e2]; exact hlen) (fun d s' hd S' => ?_) e1
  · rw [e, List.length_nil] at e2; omega
  · exact evalPairs_con hc S' fun vs kvs s₁ hk hcar S1 => ⟨kvs, hcar, by rw [hk.fst]; exact hn, S1, fun o s₂ ho S2 => h d o kvs s₂ hd hk ho S2⟩
end
end
open PySem PySem.W PySem.Calls PyProof.Rows
noncomputable def stAt (i : Nat) : Option Stmt := PySem.Challenge.pw_pe0166_01.main.body[i]?
noncomputable def bodyOf (i : Nat) : List Stmt := match stAt i with | some (.FunctionDef _ _ b _ _ _ _ _ _ _) => b | _ => []
noncomputable def scopeOf (i : Nat) : Scope := match stAt i with | some (.FunctionDef _ _ _ _ _ _ s _ _ _) => s | _ => default
noncomputable def nameOf (i : Nat) : Str := match stAt i with | some (.FunctionDef n _ _ _ _ _ _ _ _ _) => n | _ => default
noncomputable def paramsOf (i : Nat) : Arguments := match stAt i with | some (.FunctionDef _ a _ _ _ _ _ _ _ _) => a | _ => default

/-- the i-th statement's def, plain -/
noncomputable def FnA (g : Gh) (i : Nat) (a : Addr) : Prop := ∃ doc pm an cd ct, FnG g a (nameOf i) (paramsOf i) (bodyOf i) (scopeOf i) .none .none doc pm an cd ct
/-- the same, with the defaults 0 and None -/
noncomputable def FnD (g : Gh) (i : Nat) (a : Addr) : Prop := ∃ doc pm an cd ct T d oT t n, FnG g a (nameOf i) (paramsOf i) (bodyOf i) (scopeOf i) (.ref T) d doc pm an cd ct ∧
  g T = some oT ∧ oT.data = .seq #[.int 0 t, .none] n
theorem FnA.mono {g g' : Gh} {i : Nat} {a : Addr} (x : FnA g i a) (h : Le g g') : FnA g' i a := let ⟨doc, pm, an, cd, ct, f⟩ := x; ⟨doc, pm, an, cd, ct, f.mono h⟩
theorem FnD.mono {g g' : Gh} {i : Nat} {a : Addr} (x : FnD g i a) (h : Le g g') : FnD g' i a := let ⟨doc, pm, an, cd, ct, T, d, oT, t, n, f, e2, e3⟩ := x; ⟨doc, pm, an, cd, ct, T, d, oT, t, n, f.mono h, h _ _ e2, e3⟩

section
variable {prog : Program} {w : World} {A : Around} {E : Value → Shared → Prop} {s : Shared} {env : Env} {g : Gh} {i : Nat} {a : Addr}
theorem call_fnA {args : List Value} {kw : List (Str × Value)} {binds : List (Str × Value)} {mg : Str → Option Value} {Q : Value → Shared → Prop}
    (hR : Room 1 A) (hg : Le g s.heap.get?) (T : Top0 g mg) (F : FnA g i a) (hs : ScopeOk (scopeOf i))
    (hbind : ∀ doc pm an cd ct, BindsTo s (fnOf (nameOf i) (nameOf i) (paramsOf i) (bodyOf i) (scopeOf i) .none .none doc pm an cd ct) ⟨args, kw⟩ binds)
    (hkind : ∀ n, ∀ x ∈ binds, (scopeOf i).names.lookup x.1 = some .local ∨ ((scopeOf i).names.lookup x.1 = some .cell ∧ ((cellsFrom n (scopeOf i).names []).lookup x.1).isSome = true))
    (h : ∀ cd L s', St s g g (envC (nameOf i) (scopeOf i) L a cd) (V binds.reverse) [] s' →
      ∀ R : Flow → Shared → Prop, Cont (fun f s'' => Q (match f with | .ret v => v | _ => .none) s'') R → wpAny (model prog w) (A.deeper (envC (nameOf i) (scopeOf i) L a cd)) (execs (bodyOf i) (envC (nameOf i) (scopeOf i) L a cd)) R Never s') :
    wpAny (model prog w) A (call (.ref a) args kw) Q E s := by
  obtain ⟨doc, pm, an, cd, ct, F⟩ := F
  exact call_fn hR hg T F hs (hbind _ _ _ _ _) hkind (h cd)
theorem r_cwA {pos : Pos} {e : Expr} {rest : List Expr} {Q : Value → Shared → Prop} (F : FnA g i a)
    (h : wpAny (model prog w) A (spliced (backTo pos (starEach (e :: rest) env))) (fun vs s₁ => Le g s₁.heap.get? ∧ wpAny (model prog w) A (call (.ref a) vs) Q E s₁) E s)
    (he : starEach (e :: rest) env = (false, eval e env) :: starEach rest env := by rfl) :
    wpAny (model prog w) A (callWith pos (.ref a) [] (backTo pos (starEach (e :: rest) env)) []) Q E s := by
  obtain ⟨doc, pm, an, cd, ct, F⟩ := F
  exact r_cwf F h he
theorem r_ckD {pos kp : Pos} {e : Expr} {rest : List Expr} {kn : Str} {ke : Expr} {Q : Value → Shared → Prop} (F : FnD g i a)
    (h : wpAny (model prog w) A (spliced (backTo pos (starEach (e :: rest) env))) (fun vs s₁ => wpAny (model prog w) A (eval ke env) (fun kv s₂ => Le g s₂.heap.get? ∧ wpAny (model prog w) A (call (.ref a) vs [(kn, kv)]) Q E s₂) E s₁) E s)
    (he : starEach (e :: rest) env = (false, eval e env) :: starEach rest env := by rfl) :
    wpAny (model prog w) A (callWith pos (.ref a) [] (backTo pos (starEach (e :: rest) env)) (backToKw pos (keywordEach [⟨some kn, ke, kp⟩] env))) Q E s := by
  obtain ⟨doc, pm, an, cd, ct, T, d, oT, t, n, F, _, _⟩ := F
  exact r_cwk F h he
end
/-- where the text's defs lie -/
structure Ads where
  edits : Addr
  start : Addr
  piece : Addr
  mended : Addr
  kept : Addr
  cut : Addr
  told : Addr
  right : Addr
  left : Addr
  term : Addr
  nonterm : Addr
  eof : Addr

/-- the table of the kinds -/
noncomputable def TabG (prog : Program) (w : World) (g : Gh) (mg : Str → Option Value) : Prop := ∃ d f, mg (Str.ofString "EXACT_TOKEN_TYPES") = some (.ref d) ∧ (d == sysModules) = false ∧ DictG prog w g d f ∧
  ∀ u, Alph u → u.length ≤ 3 → (∃ k t, f (Tx u) = some (.int k t) ∧ kd u = some k) ∨ (f (Tx u) = none ∧ kd u = none)
theorem TabG.mono {prog : Program} {w : World} {g g' : Gh} {mg : Str → Option Value} (x : TabG prog w g mg) (h : Le g g') : TabG prog w g' mg := let ⟨d, f, a, b, c, e⟩ := x; ⟨d, f, a, b, c.mono h, e⟩

structure Glb (prog : Program) (w : World) (g : Gh) (mg : Str → Option Value) (ad : Ads) : Prop where
  top : Top0 g mg
  tab : TabG prog w g mg
  edits : FnA g 59 ad.edits
  start : FnA g 60 ad.start
  piece : FnA g 61 ad.piece
  mended : FnA g 62 ad.mended
  kept : FnA g 63 ad.kept
  cut : FnA g 64 ad.cut
  told : FnA g 65 ad.told
  right : FnD g 1 ad.right
  left : FnD g 2 ad.left
  term : FnA g 55 ad.term
  nonterm : FnA g 56 ad.nonterm
  eof : FnA g 57 ad.eof

/-- the top's names -/
structure Nms (mg : Str → Option Value) (ad : Ads) : Prop where
  edits : mg (Str.ofString "_law_edits") = some (.ref ad.edits)
  start : mg (Str.ofString "_law_start") = some (.ref ad.start)
  piece : mg (Str.ofString "_law_piece") = some (.ref ad.piece)
  mended : mg (Str.ofString "_law_mended") = some (.ref ad.mended)
  kept : mg (Str.ofString "_law_kept") = some (.ref ad.kept)
  cut : mg (Str.ofString "_law_cut") = some (.ref ad.cut)
  told : mg (Str.ofString "_law_told") = some (.ref ad.told)
  right : mg (Str.ofString "bisect_right") = some (.ref ad.right)
  left : mg (Str.ofString "bisect_left") = some (.ref ad.left)
  term : mg (Str.ofString "ISTERMINAL") = some (.ref ad.term)
  nonterm : mg (Str.ofString "ISNONTERMINAL") = some (.ref ad.nonterm)
  eof : mg (Str.ofString "ISEOF") = some (.ref ad.eof)
  offset : ∃ t, mg (Str.ofString "NT_OFFSET") = some (.int 256 t)
  endmark : ∃ t, mg (Str.ofString "ENDMARKER") = some (.int 0 t)
  len : mg (Str.ofString "len") = none
  min : mg (Str.ofString "min") = none
  max : mg (Str.ofString "max") = none
  ord : mg (Str.ofString "ord") = none
  range : mg (Str.ofString "range") = none
theorem Glb.mono {prog : Program} {w : World} {g g' : Gh} {mg : Str → Option Value} {ad : Ads} (x : Glb prog w g mg ad) (h : Le g g') : Glb prog w g' mg ad :=
  ⟨x.top.mono h, x.tab.mono h, x.edits.mono h, x.start.mono h, x.piece.mono h, x.mended.mono h, x.kept.mono h, x.cut.mono h, x.told.mono h, x.right.mono h, x.left.mono h, x.term.mono h, x.nonterm.mono h, x.eof.mono h⟩

noncomputable def encMark (p : Int × Int) : PyData := .list [.int p.1, .int p.2]
noncomputable def encMarks (ms : List (Int × Int)) : PyData := .list (ms.map encMark)

theorem boot_len : bootBuiltins (Str.ofString "len") = some (.builtin "len") := by decide +kernel
theorem boot_min : bootBuiltins (Str.ofString "min") = some (.builtin "min") := by decide +kernel
theorem boot_max : bootBuiltins (Str.ofString "max") = some (.builtin "max") := by decide +kernel
theorem boot_ord : bootBuiltins (Str.ofString "ord") = some (.builtin "ord") := by decide +kernel
theorem boot_range : bootBuiltins (Str.ofString "range") = some (.type "range") := by decide +kernel

theorem plainL_of {h : Heap} {D : Addr} {vs : List Value} {n : Nat} (e : h.get? D = some (lst vs n)) : PlainL h D vs.toArray := ⟨_, n, e, rfl, rfl, rfl⟩

/-- a size -/
local macro_rules | `(tactic| walk_at "mine.sz") => `(tactic| (rw [sizeLine_eq]; first | omega | (simp only [List.length_cons, List.length_append, List.length_nil, List.length_take, List.length_drop, List.length_map]; omega)))
/-- the looking of a variable up -/
local macro_rules | `(tactic| walk_at "mine.v") => `(tactic| first | exact rfl | assumption)
/-- a name of the top -/
local macro_rules | `(tactic| walk_at "mine.n") => `(tactic| with_reducible first | exact Nms.left (by assumption) | exact Nms.right (by assumption) | exact Nms.start (by assumption) | exact Nms.len (by assumption) | exact Nms.piece (by assumption) | exact Nms.mended (by assumption) | exact Nms.cut (by assumption) | exact Nms.min (by assumption) | exact Nms.max (by assumption) | exact Nms.ord (by assumption) | exact Nms.range (by assumption) | exact Nms.term (by assumption) | exact Nms.nonterm (by assumption) | exact Nms.eof (by assumption) | exact Nms.kept (by assumption) | exact Nms.told (by assumption) | exact Nms.edits (by assumption))
local macro_rules | `(tactic| walk_at "mine.b") => `(tactic| with_reducible first | exact boot_len | exact boot_min | exact boot_max | exact boot_ord | exact boot_range)
/-- one step of the walk -/
local macro_rules | `(tactic| walk_at "mine.1") => `(tactic| first
  | ((with_reducible show wpAny _ _ (execs (_ :: _) _) _ _ _); refine execs_gen ?_; intro _ _)
  | with_reducible refine wpAny_execs_nil ?_
  | ((with_reducible show wpAny _ _ (exec (Stmt.Assign [Expr.Name _ _] _ _) _) _ _ _); refine wpAny_Assign_Name ?_)
  | ((with_reducible show wpAny _ _ (exec (Stmt.Assign [Expr.Tuple _ _ _] _ _) _) _ _ _); refine Assign_Tuple ?_)
  | with_reducible refine wpAny_AugAssign_Name ?_
  | with_reducible refine wpAny_Return_some ?_
  | with_reducible refine wpAny_If ?_
  | ((with_reducible show wpAny _ _ (exec (Stmt.Expr _ _) _) _ _ _); refine wpAny_Expr_any ?_)
  | ((with_reducible show wpAny _ _ (isTrue (Expr.Compare _ [_] [_] _) _ _) _ _ _); refine wpAny_isTrue_Compare1 ?_)
  | with_reducible refine wpAny_isTrue_BoolOp ?_
  | with_reducible refine wpAny_allTrue_Or_cons ?_
  | with_reducible refine wpAny_allTrue_Or_nil ?_
  | with_reducible refine wpAny_allTrue_And_cons ?_
  | with_reducible refine wpAny_allTrue_And_nil ?_
  | with_reducible refine wpAny_truthy_bool ?_
  | ((with_reducible show wpAny _ _ (eval (Expr.Name _ _) _) _ _ _); first | refine r_loc (by assumption) (by rfl) (by walk_at "mine.v") ?_ | refine r_cel (by assumption) (by rfl) (by rfl) (by walk_at "mine.v") ?_ | refine r_glo (by assumption) (Glb.top (by assumption)) (by rfl) (by walk_at "mine.n") ?_ | refine r_bui (by assumption) (Glb.top (by assumption)) (by rfl) (by walk_at "mine.n") (by walk_at "mine.b") ?_)
  | ((with_reducible show wpAny _ _ (loadName _ _) _ _ _); refine r_ldn (by assumption) (by rfl) (by walk_at "mine.v") ?_)
  | with_reducible refine wpAny_Constant_none ?_
  | ((with_reducible show wpAny _ _ (eval (Expr.Constant (Const.int _) _ _) _) _ _ _); refine r_int (by assumption) ?_; intro _ _ _)
  | ((with_reducible show wpAny _ _ (eval (Expr.Constant (Const.str _) _ _) _) _ _ _); refine r_str (by assumption) ?_; intro _ _ _)
  | with_reducible refine wpAny_BinOp ?_
  | ((with_reducible show wpAny _ _ (eval (Expr.Compare _ [_] [_] _) _) _ _ _); refine wpAny_Compare1 ?_)
  | with_reducible refine Subscript_ ?_
  | with_reducible refine List_ ?_
  | with_reducible refine wpAny_Slice ?_
  | with_reducible refine wpAny_evalPart_none ?_
  | with_reducible refine wpAny_evalPart_some ?_
  | ((with_reducible show wpAny _ _ (exec (Stmt.For _ _ _ _ _) _) _ _ _); refine wpAny_For ?_)
  | with_reducible refine wpAny_assign_Name ?_
  | with_reducible refine wpAny_Call_NameR ?_
  | ((with_reducible show wpAny _ _ (eval (Expr.Call (Expr.Attribute (Expr.Name _ _) _ _) [_] [] _) _) _ _ _); refine wpAny_Call_append (by rfl) (by rfl) (by rfl) (by rfl) ?_)
  | ((with_reducible show ∃ D its, _ ∧ PlainL _ D its ∧ _); refine ⟨_, _, rfl, plainL_of (St.own (by assumption) _ List.mem_cons_self), ?_⟩)
  | ((with_reducible show wpAny _ _ (call (Value.builtin "list.append") [Value.ref _, _]) _ _ _); refine r_app0 (by assumption) (by walk_at "mine.sz") ?_; intro _ _ _)
  | with_reducible refine wpAny_Call_ofName ?_
  | ((with_reducible show wpAny _ _ (callWith _ (Value.builtin _) [] (backTo _ (starEach (_ :: _) _)) []) _ _ _); refine PyProof.Rows.callWith_builtin1 ?_)
  | ((with_reducible show wpAny _ _ (callWith _ (Value.type _) [] (backTo _ (starEach (_ :: _) _)) []) _ _ _); refine PyProof.Rows.callWith_type1 ?_)
  | ((with_reducible show wpAny _ _ (spliced (backTo _ (starEach (_ :: _) _))) _ _ _); refine args_cons ?_)
  | with_reducible refine args_nil ?_
  | ((with_reducible show wpAny _ _ (binaryOp Operator.Add (Value.int _ _) (Value.int _ _)) _ _ _); refine r_add (by assumption) ?_; intro _ _ _)
  | ((with_reducible show wpAny _ _ (binaryOp Operator.Sub (Value.int _ _) (Value.int _ _)) _ _ _); refine r_sub (by assumption) ?_; intro _ _ _)
  | ((with_reducible show wpAny _ _ (inplaceOp Operator.Add (Value.int _ _) (Value.int _ _)) _ _ _); refine r_iadd (by assumption) ?_; intro _ _ _)
  | with_reducible refine PyProof.Rows.lt_int ?_
  | with_reducible refine PyProof.Rows.ne_int ?_
  | with_reducible refine PyProof.Rows.eq_int ?_
  | with_reducible refine PyProof.Rows.le_int ?_
  | with_reducible refine PyProof.Rows.ge_int ?_
  | with_reducible refine is_none_gen ?_
  | ((with_reducible show wpAny _ _ (storeName _ _ _) _ _ _); first | (refine r_sto (by assumption) (by rfl) ?_; intro _ _) | (refine r_stc (by assumption) (by rfl) (by rfl) ?_; intro _ _))
  | refine Cont.go (by assumption) ?_)
local macro_rules | `(tactic| walk_at "mine.go") => `(tactic| repeat (walk_at "mine.1"))
/-- the ghost lies under the heap -/
local macro_rules | `(tactic| walk_at "mine.le") => `(tactic| first | exact St.keep (by assumption) | exact Le.trans (St.mono (by assumption)) (St.keep (by assumption)) | exact Le.trans (by assumption) (St.keep (by assumption)))

section
variable {prog : Program} {w : World} {A : Around} {s : Shared} {g : Gh} {mg : Str → Option Value} {ad : Ads}
theorem start_ok : ScopeOk (scopeOf 60) := ⟨rfl, rfl, rfl, by decide, by decide⟩
theorem start_spec {v : Value} {i : Int} {ds : List PyData}
    (hR : Room 2 A) (hg : Le g s.heap.get?) (G : Glb prog w g mg ad) (hv : Rep g v (.list (.int i :: ds))) :
    wpAny (model prog w) A (call (.ref ad.start) [v]) (Ret s g fun _ r => ∃ t, r = .int i t) Never s := by
  refine call_fnA (binds := [(Str.ofString "mark", v)]) (hR.le (by omega)) hg G.top G.start start_ok (fun _ _ _ _ _ => BindsTo.of_eq (by rfl)) ?_ ?_
  · intro n x hx
    simp only [List.mem_singleton] at hx
    subst hx
    exact .inl rfl
  · intro cd L s' S R₀ hR₀
    refine execs_gen fun R₁ hR₁ => ?_
    walk_at "mine.go"
    obtain ⟨b, vs, n, rfl, e, r⟩ := hv.list_inv
    cases r with
    | cons q r =>
      obtain ⟨t', rfl⟩ := q.int_inv
      refine r_item (by assumption) e (by omega) (by omega) rfl ?_
      walk_at "mine.go"
      exact St.done (by assumption) ⟨t', rfl⟩

theorem term_ok : ScopeOk (scopeOf 55) := ⟨rfl, rfl, rfl, by decide, by decide⟩
theorem nonterm_ok : ScopeOk (scopeOf 56) := ⟨rfl, rfl, rfl, by decide, by decide⟩
theorem eof_ok : ScopeOk (scopeOf 57) := ⟨rfl, rfl, rfl, by decide, by decide⟩
theorem term_spec {i : Int} {t : Tok} (hR : Room 2 A) (hg : Le g s.heap.get?) (G : Glb prog w g mg ad) (M : Nms mg ad) :
    wpAny (model prog w) A (call (.ref ad.term) [.int i t]) (Ret s g fun _ r => r = .bool (decide (i < 256))) Never s := by
  refine call_fnA (binds := [(Str.ofString "x", .int i t)]) (hR.le (by omega)) hg G.top G.term term_ok (fun _ _ _ _ _ => BindsTo.of_eq (by rfl)) ?_ ?_
  · intro n x hx
    simp only [List.mem_singleton] at hx
    subst hx
    exact .inl rfl
  · intro cd L s' S R₀ hR₀
    obtain ⟨tt, ht⟩ := M.offset
    refine execs_gen fun R₁ hR₁ => ?_
    walk_at "mine.go"
    refine r_glo (by assumption) G.top (by rfl) ht ?_
    walk_at "mine.go"
    walk_at "mine.go"
    exact St.done (by assumption) rfl
theorem nonterm_spec {i : Int} {t : Tok} (hR : Room 2 A) (hg : Le g s.heap.get?) (G : Glb prog w g mg ad) (M : Nms mg ad) :
    wpAny (model prog w) A (call (.ref ad.nonterm) [.int i t]) (Ret s g fun _ r => r = .bool (decide (256 ≤ i))) Never s := by
  refine call_fnA (binds := [(Str.ofString "x", .int i t)]) (hR.le (by omega)) hg G.top G.nonterm nonterm_ok (fun _ _ _ _ _ => BindsTo.of_eq (by rfl)) ?_ ?_
  · intro n x hx
    simp only [List.mem_singleton] at hx
    subst hx
    exact .inl rfl
  · intro cd L s' S R₀ hR₀
    obtain ⟨tt, ht⟩ := M.offset
    refine execs_gen fun R₁ hR₁ => ?_
    walk_at "mine.go"
    refine r_glo (by assumption) G.top (by rfl) ht ?_
    walk_at "mine.go"
    walk_at "mine.go"
    exact St.done (by assumption) rfl
theorem eof_spec {i : Int} {t : Tok} (hR : Room 2 A) (hg : Le g s.heap.get?) (G : Glb prog w g mg ad) (M : Nms mg ad) :
    wpAny (model prog w) A (call (.ref ad.eof) [.int i t]) (Ret s g fun _ r => r = .bool (i == 0)) Never s := by
  refine call_fnA (binds := [(Str.ofString "x", .int i t)]) (hR.le (by omega)) hg G.top G.eof eof_ok (fun _ _ _ _ _ => BindsTo.of_eq (by rfl)) ?_ ?_
  · intro n x hx
    simp only [List.mem_singleton] at hx
    subst hx
    exact .inl rfl
  · intro cd L s' S R₀ hR₀
    obtain ⟨tt, ht⟩ := M.endmark
    refine execs_gen fun R₁ hR₁ => ?_
    walk_at "mine.go"
    refine r_glo (by assumption) G.top (by rfl) ht ?_
    walk_at "mine.go"
    walk_at "mine.go"
    exact St.done (by assumption) rfl
end
section
open PySem PySem.W PySem.Calls PyProof.Rows

theorem encMarks_get {g : Gh} {vs : List Value} {ms : List (Int × Int)} (h : Reps g vs (ms.map encMark)) {i : Nat} {p : Int × Int} (hi : ms[i]? = some p) : ∃ v, vs[i]? = some v ∧ Rep g v (encMark p) :=
  h.get (by rw [List.getElem?_map, hi]; rfl)

/-- a cut of a sorted list by its starts, counted -/
theorem count_le {ms : List (Int × Int)} {x : Int} {k : Nat} (hk : k ≤ ms.length) (h1 : ∀ i p, ms[i]? = some p → i < k → p.1 ≤ x) (h2 : ∀ i p, ms[i]? = some p → k ≤ i → x < p.1) :
    (ms.filter fun p => p.1 ≤ x).length = k := by
  have e : ms = ms.take k ++ ms.drop k := (List.take_append_drop k ms).symm
  have ha : (ms.take k).filter (fun p => p.1 ≤ x) = ms.take k := by
    rw [List.filter_eq_self]
    intro p hp
    obtain ⟨i, hi, rfl⟩ := List.getElem_of_mem hp
    rw [List.length_take] at hi
    have := h1 i (ms.take k)[i] (by rw [List.getElem_take]; exact List.getElem?_eq_getElem (by omega)) (by omega)
    simpa using this
  have hb : (ms.drop k).filter (fun p => p.1 ≤ x) = [] := by
    rw [List.filter_eq_nil_iff]
    intro p hp
    obtain ⟨i, hi, rfl⟩ := List.getElem_of_mem hp
    rw [List.length_drop] at hi
    have := h2 (k + i) (ms.drop k)[i] (by rw [List.getElem_drop]; exact List.getElem?_eq_getElem (by omega)) (by omega)
    exact fun hle => absurd (of_decide_eq_true hle) (by omega)
  rw [e, List.filter_append, ha, hb, List.append_nil, List.length_take]
  omega

theorem sorted_at {ms : List (Int × Int)} (h : ms.Pairwise (·.1 < ·.1)) {i j : Nat} {p q : Int × Int} (hi : ms[i]? = some p) (hj : ms[j]? = some q) (hij : i ≤ j) : p.1 ≤ q.1 := by
  rcases Nat.lt_or_ge i j with hlt | hge
  · have hil : i < ms.length := by
      by_cases h : i < ms.length
      · exact h
      · rw [List.getElem?_eq_none (by omega)] at hi; cases hi
    have hjl : j < ms.length := by
      by_cases h : j < ms.length
      · exact h
      · rw [List.getElem?_eq_none (by omega)] at hj; cases hj
    have := List.pairwise_iff_getElem.mp h i j hil hjl hlt
    rw [List.getElem?_eq_getElem hil] at hi
    rw [List.getElem?_eq_getElem hjl] at hj
    cases hi; cases hj
    exact Int.le_of_lt this
  · have : i = j := by omega
    subst this
    rw [hi] at hj; cases hj; exact Int.le_refl _

theorem fdiv2 (a b : Nat) : ((a : Int) + (b : Int)).fdiv 2 = (((a + b) / 2 : Nat) : Int) := by
  rw [Int.fdiv_eq_ediv_of_nonneg _ (by omega)]; omega

section
variable {prog : Program} {w : World} {A : Around} {E : Value → Shared → Prop} {s₀ s : Shared} {g₀ g : Gh} {env : Env} {vl : List (Str × Value)} {own : List (Addr × Obj)}
theorem r_fdiv2 {a b : Nat} {t u : Tok} {Q : Value → Shared → Prop} (S : St s₀ g₀ g env (V vl) own s) (h : ∀ t s', St s₀ g₀ g env (V vl) own s' → Q (.int (((a + b) / 2 : Nat) : Int) t) s') :
    wpAny (model prog w) A (binaryOp .FloorDiv (.int ((a : Int) + (b : Int)) t) (.int 2 u)) Q E s := by
  refine PyProof.Rows.floordiv_int (by decide) ?_
  rw [fdiv2]
  exact h _ _ (S.toks _)
end

theorem left_ok : ScopeOk (scopeOf 2) := ⟨rfl, rfl, rfl, by decide, by decide⟩
theorem right_ok : ScopeOk (scopeOf 1) := ⟨rfl, rfl, rfl, by decide, by decide⟩
section
variable {prog : Program} {w : World} {A : Around} {s : Shared} {g : Gh} {mg : Str → Option Value} {ad : Ads}
set_option maxHeartbeats 1000000 in
theorem right_spec {v : Value} {ms : List (Int × Int)} {x : Int} {t : Tok}
    (hR : Room 5 A) (hg : Le g s.heap.get?) (G : Glb prog w g mg ad) (M : Nms mg ad) (hv : Rep g v (encMarks ms)) (hsz : ms.length ≤ 1000) (hso : ms.Pairwise (·.1 < ·.1)) :
    wpAny (model prog w) A (call (.ref ad.right) [v, .int x t] [(Str.ofString "key", .ref ad.start)]) (Ret s g fun _ r => ∃ t, r = .int ((ms.filter fun p => p.1 ≤ x).length : Nat) t) Never s := by
  obtain ⟨doc, pm, an, cd, ct, TT, d, oT, t0, n0, F, hT, hTd⟩ := G.right
  obtain ⟨l, vs, n, rfl, hl, hr⟩ := hv.list_inv
  have hvl : vs.length = ms.length := by rw [hr.length]; simp
  refine call_fn (binds := [(Str.ofString "a", .ref l), (Str.ofString "x", .int x t), (Str.ofString "lo", .int 0 t0), (Str.ofString "hi", .none), (Str.ofString "key", .ref ad.start)]) (hR.le (by omega)) hg G.top F right_ok
    (BindsTo.of_defaults rfl (hg _ _ hT) hTd (by rfl) (by rfl)) ?_ ?_
  · intro n x hx
    simp only [List.mem_cons, List.not_mem_nil, or_false] at hx
    rcases hx with rfl | rfl | rfl | rfl | rfl <;> exact .inl rfl
  · intro L s' S R₀ hR₀
    refine execs_gen fun R₁ hR₁ => ?_
    walk_at "mine.go"
    refine r_iff (by decide) ?_
    walk_at "mine.go"
    refine r_ift (by rfl) ?_
    walk_at "mine.go"
    refine r_len (by assumption) hl (by rw [sizeLine_eq]; omega) ?_
    intro t1 s1 S1
    walk_at "mine.go"
    refine r_iff (by rfl) ?_
    walk_at "mine.go"
    refine r_while (fun k s' => ∃ (lo hi : Nat) (t1 t2 : Tok) (vl : List (Str × Value)), lo ≤ hi ∧ hi ≤ ms.length ∧ k = hi - lo ∧ St s g g (envC (nameOf 1) (scopeOf 1) L ad.right cd) (V vl) [] s' ∧ V vl (Str.ofString "a") = some (.ref l) ∧ V vl (Str.ofString "x") = some (.int x t) ∧
      V vl (Str.ofString "lo") = some (.int lo t1) ∧ V vl (Str.ofString "hi") = some (.int hi t2) ∧ V vl (Str.ofString "key") = some (.ref ad.start) ∧
      (∀ i p, ms[i]? = some p → i < lo → p.1 ≤ x) ∧ (∀ i p, ms[i]? = some p → hi ≤ i → x < p.1)) ?_ ms.length ?_
    · rintro k s2 R hK ⟨lo, hi, t2, t3, vl, h1, h2, hk, S2, v1, v2, v3, v4, v5, i1, i2⟩
      walk_at "mine.go"
      refine r_if (fun hlt => ?_) fun hge => ?_
      · have hlt' : lo < hi := by simpa using hlt
        walk_at "mine.go"
        refine r_fdiv2 (by assumption) ?_
        intro t4 s4 S4
        walk_at "mine.go"
        refine r_cwA G.start ?_
        walk_at "mine.go"
        generalize hmid : (lo + hi) / 2 = mid at *
        have hm1 : lo ≤ mid := by omega
        have hm2 : mid < hi := by omega
        obtain ⟨p, hp⟩ : ∃ p, ms[mid]? = some p := ⟨ms[mid], List.getElem?_eq_getElem (by omega)⟩
        obtain ⟨v, hv1, hv2⟩ := encMarks_get hr hp
        refine r_item (by assumption) hl (by omega) (by omega) (by simpa using hv1) ?_
        walk_at "mine.go"
        refine ⟨by walk_at "mine.le", ?_⟩
        refine r_callI (by assumption) (start_spec (hR.le (by omega)).deeper (by walk_at "mine.le") G hv2) ?_
        rintro _ s5 S5 ⟨t5, rfl⟩
        walk_at "mine.go"
        refine r_if (fun hx => ?_) fun hx => ?_
        · have hx' : x < p.1 := by simpa using hx
          walk_at "mine.go"
          refine ⟨mid - lo, by omega, lo, mid, _, _, _, by omega, by omega, rfl, by assumption, by walk_at "mine.v", by walk_at "mine.v", by walk_at "mine.v", by walk_at "mine.v", by walk_at "mine.v", i1, fun i q hq hi' => ?_⟩
          exact Int.lt_of_lt_of_le hx' (sorted_at hso hp hq hi')
        · have hx' : p.1 ≤ x := by simpa using hx
          walk_at "mine.go"
          refine ⟨hi - (mid + 1), by omega, mid + 1, hi, _, _, _, by omega, by omega, rfl, by assumption, by walk_at "mine.v", by walk_at "mine.v", by walk_at "mine.v", by walk_at "mine.v", by walk_at "mine.v", fun i q hq hi' => ?_, i2⟩
          exact Int.le_trans (sorted_at hso hq hp (by omega)) hx'
      · have hge' : lo = hi := by have : ¬ lo < hi := by simpa using hge
                                  omega
        subst hge'
        refine hK _ _ ?_
        walk_at "mine.go"
        walk_at "mine.go"
        refine St.done (by assumption) ⟨t2, ?_⟩
        rw [count_le h2 i1 i2]
    · refine ⟨0, ms.length, _, t1, _, Nat.zero_le _, Nat.le_refl _, rfl, by assumption, by walk_at "mine.v", by walk_at "mine.v", by walk_at "mine.v", ?_, by walk_at "mine.v", fun i p _ h => absurd h (by omega), fun i p h1 h2 => ?_⟩
      · rw [← hvl]; exact rfl
      · rw [List.getElem?_eq_none (by omega)] at h1; cases h1
set_option maxHeartbeats 1000000 in
theorem left_spec {v : Value} {ms : List (Int × Int)} {x : Int} {t u : Tok} {lo₀ : Nat}
    (hR : Room 5 A) (hg : Le g s.heap.get?) (G : Glb prog w g mg ad) (M : Nms mg ad) (hv : Rep g v (encMarks ms)) (hsz : ms.length ≤ 1000) (hso : ms.Pairwise (·.1 < ·.1)) (hlo : lo₀ ≤ ms.length) :
    wpAny (model prog w) A (call (.ref ad.left) [v, .int x t, .int lo₀ u] [(Str.ofString "key", .ref ad.start)]) (Ret s g fun _ r => ∃ (k : Nat) (t : Tok), r = .int k t ∧ lo₀ ≤ k ∧ k ≤ ms.length ∧ (∀ i p, ms[i]? = some p → lo₀ ≤ i → i < k → p.1 < x) ∧ (∀ i p, ms[i]? = some p → k ≤ i → x ≤ p.1)) Never s := by
  obtain ⟨doc, pm, an, cd, ct, TT, d, oT, t0, n0, F, hT, hTd⟩ := G.left
  obtain ⟨l, vs, n, rfl, hl, hr⟩ := hv.list_inv
  have hvl : vs.length = ms.length := by rw [hr.length]; simp
  refine call_fn (binds := [(Str.ofString "a", .ref l), (Str.ofString "x", .int x t), (Str.ofString "lo", .int lo₀ u), (Str.ofString "hi", .none), (Str.ofString "key", .ref ad.start)]) (hR.le (by omega)) hg G.top F left_ok
    (BindsTo.of_defaults rfl (hg _ _ hT) hTd (by rfl) (by rfl)) ?_ ?_
  · intro n x hx
    simp only [List.mem_cons, List.not_mem_nil, or_false] at hx
    rcases hx with rfl | rfl | rfl | rfl | rfl <;> exact .inl rfl
  · intro L s' S R₀ hR₀
    refine execs_gen fun R₁ hR₁ => ?_
    walk_at "mine.go"
    refine r_iff (by simp) ?_
    walk_at "mine.go"
    refine r_ift (by rfl) ?_
    walk_at "mine.go"
    refine r_len (by assumption) hl (by rw [sizeLine_eq]; omega) ?_
    intro t1 s1 S1
    walk_at "mine.go"
    refine r_iff (by rfl) ?_
    walk_at "mine.go"
    refine r_while (fun k s' => ∃ (lo hi : Nat) (t1 t2 : Tok) (vl : List (Str × Value)), lo₀ ≤ lo ∧ lo ≤ hi ∧ hi ≤ ms.length ∧ k = hi - lo ∧ St s g g (envC (nameOf 2) (scopeOf 2) L ad.left cd) (V vl) [] s' ∧ V vl (Str.ofString "a") = some (.ref l) ∧ V vl (Str.ofString "x") = some (.int x t) ∧
      V vl (Str.ofString "lo") = some (.int lo t1) ∧ V vl (Str.ofString "hi") = some (.int hi t2) ∧ V vl (Str.ofString "key") = some (.ref ad.start) ∧
      (∀ i p, ms[i]? = some p → lo₀ ≤ i → i < lo → p.1 < x) ∧ (∀ i p, ms[i]? = some p → hi ≤ i → x ≤ p.1)) ?_ (ms.length - lo₀) ?_
    · rintro k s2 R hK ⟨lo, hi, t2, t3, vl, h0, h1, h2, hk, S2, v1, v2, v3, v4, v5, i1, i2⟩
      walk_at "mine.go"
      refine r_if (fun hlt => ?_) fun hge => ?_
      · have hlt' : lo < hi := by simpa using hlt
        walk_at "mine.go"
        refine r_fdiv2 (by assumption) ?_
        intro t4 s4 S4
        walk_at "mine.go"
        refine r_cwA G.start ?_
        walk_at "mine.go"
        generalize hmid : (lo + hi) / 2 = mid at *
        have hm1 : lo ≤ mid := by omega
        have hm2 : mid < hi := by omega
        obtain ⟨p, hp⟩ : ∃ p, ms[mid]? = some p := ⟨ms[mid], List.getElem?_eq_getElem (by omega)⟩
        obtain ⟨v, hv1, hv2⟩ := encMarks_get hr hp
        refine r_item (by assumption) hl (by omega) (by omega) (by simpa using hv1) ?_
        walk_at "mine.go"
        refine ⟨by walk_at "mine.le", ?_⟩
        refine r_callI (by assumption) (start_spec (hR.le (by omega)).deeper (by walk_at "mine.le") G hv2) ?_
        rintro _ s5 S5 ⟨t5, rfl⟩
        walk_at "mine.go"
        refine r_if (fun hx => ?_) fun hx => ?_
        · have hx' : p.1 < x := by simpa using hx
          walk_at "mine.go"
          refine ⟨hi - (mid + 1), by omega, mid + 1, hi, _, _, _, by omega, by omega, by omega, rfl, by assumption, by walk_at "mine.v", by walk_at "mine.v", by walk_at "mine.v", by walk_at "mine.v", by walk_at "mine.v", fun i q hq _ hi' => ?_, i2⟩
          exact Int.lt_of_le_of_lt (sorted_at hso hq hp (by omega)) hx'
        · have hx' : x ≤ p.1 := by simpa using hx
          walk_at "mine.go"
          refine ⟨mid - lo, by omega, lo, mid, _, _, _, h0, by omega, by omega, rfl, by assumption, by walk_at "mine.v", by walk_at "mine.v", by walk_at "mine.v", by walk_at "mine.v", by walk_at "mine.v", i1, fun i q hq hi' => ?_⟩
          exact Int.le_trans hx' (sorted_at hso hp hq hi')
      · have hge' : lo = hi := by have : ¬ lo < hi := by simpa using hge
                                  omega
        subst hge'
        refine hK _ _ ?_
        walk_at "mine.go"
        walk_at "mine.go"
        exact St.done (by assumption) ⟨lo, t2, rfl, h0, h2, i1, i2⟩
    · refine ⟨lo₀, ms.length, _, t1, _, Nat.le_refl _, hlo, Nat.le_refl _, rfl, by assumption, by walk_at "mine.v", by walk_at "mine.v", by walk_at "mine.v", ?_, by walk_at "mine.v", fun i p _ _ h => absurd h (by omega), fun i p h1 h2 => ?_⟩
      · rw [← hvl]; exact rfl
      · rw [List.getElem?_eq_none (by omega)] at h1; cases h1
end
end
section
open PySem PySem.W PySem.Calls PyProof PyProof.Rows
theorem pc_of {u : List Nat} {z : Nat} {k : Int} (h1 : 1 ≤ z) (h3 : z ≤ 3) (hn : ∀ j, z < j → j ≤ 3 → kd (u.take j) = none) (hk : kd (u.take z) = some k) : pc u = (k, (u.take z).length) := by
  have : z = 1 ∨ z = 2 ∨ z = 3 := by omega
  unfold pc
  rcases this with rfl | rfl | rfl
  · rw [hn 3 (by omega) (by omega), hn 2 (by omega) (by omega), hk]
  · rw [hn 3 (by omega) (by omega), hk]
  · rw [hk]
theorem pc_none {u : List Nat} (hn : ∀ j, 0 < j → j ≤ 3 → kd (u.take j) = none) : pc u = ((256 : Int) + (u.headD 0 : Nat), 1) := by
  unfold pc
  rw [hn 3 (by omega) (by omega), hn 2 (by omega) (by omega), hn 1 (by omega) (by omega)]

theorem piece_ok : ScopeOk (scopeOf 61) := ⟨rfl, rfl, rfl, by decide, by decide⟩
section
variable {prog : Program} {w : World} {A : Around} {s : Shared} {g : Gh} {mg : PySem.Str → Option Value} {ad : Ads}
set_option maxHeartbeats 1000000 in
theorem piece_spec {x : List Nat} {p : Nat} {t u : Tok}
    (hR : Room 5 A) (hg : Le g s.heap.get?) (G : Glb prog w g mg ad) (M : Nms mg ad) (hx : Alph x) (hsz : x.length ≤ 1000) (hp : p < x.length) :
    wpAny (model prog w) A (call (.ref ad.piece) [.str (Tx x) t, .int p u]) (Ret s g fun g' r => Rep g' r (.list [.int (pc (x.drop p)).1, .int ((pc (x.drop p)).2 : Nat)])) Never s := by
  refine call_fnA (binds := [(PySem.Str.ofString "text", .str (Tx x) t), (PySem.Str.ofString "spot", .int p u)]) (hR.le (by omega)) hg G.top G.piece piece_ok (fun _ _ _ _ _ => BindsTo.of_eq (by rfl)) ?_ ?_
  · intro n x hx
    simp only [List.mem_cons, List.not_mem_nil, or_false] at hx
    rcases hx with rfl | rfl <;> exact .inl rfl
  · intro cd L s' S R₀ hR₀
    refine execs_gen fun R₁ hR₁ => ?_
    walk_at "mine.go"
    refine r_new (by assumption) (by walk_at "mine.sz") ?_
    intro l g1 s1 hle hl S1
    refine r_for (hR.deeper).1 S1 hl (fun i vl' g' own' => own' = [] ∧ V vl' (PySem.Str.ofString "text") = some (.str (Tx x) t) ∧ V vl' (PySem.Str.ofString "spot") = some (.int p u) ∧ ∀ j, 3 - i < j → j ≤ 3 → kd ((x.drop p).take j) = none) ⟨rfl, rfl, rfl, fun j h1 h2 => by omega⟩ ?_ ?_ (.inl (fun _ _ => rfl))
    · rintro i v vl' g' own' it s2 R hK hv ⟨rfl, v1, v2, hn⟩ hle' S2
      have G' := G.mono (Le.trans hle hle')
      obtain ⟨d, f, hd1, hd2, hd3, hd4⟩ := G'.tab
      obtain ⟨z, hz, tz, rfl, hzi⟩ : ∃ (z : Nat) (_ : 1 ≤ z ∧ z ≤ 3) (tz : Tok), v = .int z tz ∧ z = 3 - i := by
        match i, hv with
        | 0, hv => simp at hv; exact ⟨3, by omega, _, hv.symm, rfl⟩
        | 1, hv => simp at hv; exact ⟨2, by omega, _, hv.symm, rfl⟩
        | 2, hv => simp at hv; exact ⟨1, by omega, _, hv.symm, rfl⟩
        | n + 3, hv => simp at hv
      walk_at "mine.go"
      refine r_sl_ss (a := p) (b := p + z) (by assumption) (by walk_at "mine.sz") rfl (by omega) ?_
      intro t3 s3 S3
      rw [Nat.add_sub_cancel_left]
      walk_at "mine.go"
      refine r_glo (by assumption) G'.top (by rfl) hd1 ?_
      refine r_in (by assumption) hd3 hd2 ?_
      intro s4 S4
      walk_at "mine.go"
      refine r_if (fun hin => ?_) fun hin => ?_
      · rcases hd4 _ ((hx.drop p).take z) (by rw [List.length_take]; omega) with ⟨k, tk, hk1, hk2⟩ | ⟨hk1, _⟩
        · walk_at "mine.go"
          refine r_glo (by assumption) G'.top (by rfl) hd1 ?_
          walk_at "mine.go"
          refine r_dget (by assumption) hd3 hk1 ?_
          intro s5 S5
          walk_at "mine.go"
          refine r_slen (by assumption) (by walk_at "mine.sz") ?_
          intro t6 s6 S6
          walk_at "mine.go"
          refine r_new (by assumption) (by walk_at "mine.sz") ?_
          intro l2 g2 s7 hle2 hl2 S7
          walk_at "mine.go"
          refine St.done S7 ?_
          rw [pc_of hz.1 hz.2 (by rw [hzi]; exact hn) hk2]
          exact .list hl2 (.cons (.int _ _) (.cons (.int _ _) .nil))
        · rw [hk1] at hin; cases hin
      · rcases hd4 _ ((hx.drop p).take z) (by rw [List.length_take]; omega) with ⟨k, tk, hk1, hk2⟩ | ⟨_, hk2⟩
        · rw [hk1] at hin; cases hin
        · walk_at "mine.go"
          refine ⟨_, g', [], S4, Le.refl _, rfl, by walk_at "mine.v", by walk_at "mine.v", fun j h1 h2 => ?_⟩
          by_cases hj : j = z
          · subst hj; exact hk2
          · exact hn j (by omega) h2
    · rintro vl' g' own' s2 ⟨rfl, v1, v2, hn⟩ hle' S2
      have G' := G.mono (Le.trans hle hle')
      walk_at "mine.go"
      obtain ⟨c, hc⟩ : ∃ c, x[p]? = some c := ⟨x[p], List.getElem?_eq_getElem hp⟩
      refine r_sign (a := p) (c := c) (by assumption) rfl (by omega) hc ?_
      intro t3 s3 S3
      walk_at "mine.go"
      refine r_ord (by assumption) ?_
      intro t4 s4 S4
      walk_at "mine.go"
      refine r_new (by assumption) (by walk_at "mine.sz") ?_
      intro l2 g2 s7 hle2 hl2 S7
      walk_at "mine.go"
      refine St.done (by assumption) ?_
      have hh : (x.drop p).headD 0 = c := by
        rw [List.headD_eq_head?_getD, List.head?_drop, hc]; rfl
      rw [pc_none (fun j h1 h2 => hn j (by simpa using h1) h2), hh]
      exact .list hl2 (.cons (.int _ _) (.cons (.int _ _) .nil))
end
end
section
open PySem PySem.W PySem.Calls PyProof PyProof.Rows
theorem mended_ok : ScopeOk (scopeOf 62) := ⟨rfl, rfl, rfl, by decide, by decide⟩
section
variable {prog : Program} {w : World} {A : Around} {s : Shared} {g : Gh} {mg : PySem.Str → Option Value} {ad : Ads}
set_option maxHeartbeats 4000000 in
theorem mended_spec {mv : Value} {x put : List Nat} {place gone : Nat} {t1 t2 t3 t4 : Tok}
    (hR : Room 10 A) (hg : Le g s.heap.get?) (G : Glb prog w g mg ad) (M : Nms mg ad) (hv : Rep g mv (encMarks (mf x 0))) (hx : Alph x) (hput : Alph put) (hsz : x.length + put.length ≤ 900) (hp : place + gone ≤ x.length) :
    wpAny (model prog w) A (call (.ref ad.mended) [mv, .str (Tx (ap x place gone put)) t1, .int place t2, .int gone t3, .int put.length t4])
      (Ret s g fun g' r => Rep g' r (.list [encMarks (mf (ap x place gone put) 0), .int ((upto (mf x 0) place gone put.length (mf (ap x place gone put) 0) : Int) - (ahead (mf x 0) place : Nat))])) Never s := by
  have hlen := ap_len (put := put) hp
  have hax := ap_alph (place := place) (gone := gone) hx hput
  obtain ⟨q0, k0, hq1, hq2, hq3⟩ := mend_start (put := put) hp
  have hml := mf_len x 0
  have hms := mf_sorted x 0
  have hal := ahead_le (mf x 0) place
  refine call_fnA (binds := [(PySem.Str.ofString "marks", mv), (PySem.Str.ofString "text", .str (Tx (ap x place gone put)) t1), (PySem.Str.ofString "place", .int place t2), (PySem.Str.ofString "gone", .int gone t3), (PySem.Str.ofString "come", .int put.length t4)]) (hR.le (by omega)) hg G.top G.mended mended_ok (fun _ _ _ _ _ => BindsTo.of_eq (by rfl)) ?_ ?_
  · intro n x hx
    simp only [List.mem_cons, List.not_mem_nil, or_false] at hx
    rcases hx with rfl | rfl | rfl | rfl | rfl <;> exact .inl rfl
  · intro cd L s' S R₀ hR₀
    obtain ⟨lm, vs, nm, rfl, hlm, hrm⟩ := hv.list_inv
    refine execs_gen fun R₁ hR₁ => ?_
    walk_at "mine.go"
    refine r_ckD G.right ?_
    walk_at "mine.go"
    refine ⟨by walk_at "mine.le", ?_⟩
    refine r_callI (by assumption) (right_spec (Room.le hR.deeper (by omega)) (by walk_at "mine.le") G M hv (by omega) hms) ?_
    rintro rv s1 S1 ⟨tf, hrv⟩
    have hrv : rv = .int (ahead (mf x 0) place : Nat) tf := hrv
    subst hrv
    walk_at "mine.go"
    obtain ⟨v0, hv0, hr0⟩ := encMarks_get hrm hq1
    refine r_item (by assumption) hlm (by omega) (by omega) (by simpa using hv0) ?_
    walk_at "mine.go"
    obtain ⟨b0, w0, n0, rfl, hb0, hrb0⟩ := hr0.list_inv
    cases hrb0 with
    | cons hi0 hrb0 =>
    obtain ⟨tq, rfl⟩ := hi0.int_inv
    refine r_item (by assumption) hb0 (by omega) (by omega) rfl ?_
    walk_at "mine.go"
    refine r_ckD G.left ?_
    walk_at "mine.go"
    refine ⟨by walk_at "mine.le", ?_⟩
    refine r_callI (by assumption) (left_spec (lo₀ := ahead (mf x 0) place) (Room.le hR.deeper (by omega)) (by walk_at "mine.le") G M hv (by omega) hms hal) ?_
    rintro _ s2 S2 ⟨l0, tl, rfl, hl0⟩
    walk_at "mine.go"
    refine r_newO (by assumption) (by walk_at "mine.sz") ?_
    intro D s3 S3
    walk_at "mine.go"
    have hl0' : LeftOk (mf x 0) (ahead (mf x 0) place) l0 ((q0 : Int) - ((put.length : Int) - gone)) := ⟨hl0.1, hl0.2.1, hl0.2.2.1, hl0.2.2.2⟩
    refine r_while (fun k s' => ∃ (spot last : Nat) (fr : List (Int × Int)) (frv : List Value) (n : Nat) (g' : Gh) (vl : List (PySem.Str × Value)) (ta tb td te : Tok),
      k = (ap x place gone put).length - spot ∧ St s g g' (envC (nameOf 62) (scopeOf 62) L ad.mended cd) (V vl) [(D, lst frv n)] s' ∧
      V vl (PySem.Str.ofString "marks") = some (.ref lm) ∧ V vl (PySem.Str.ofString "text") = some (.str (Tx (ap x place gone put)) t1) ∧ V vl (PySem.Str.ofString "place") = some (.int place t2) ∧
      V vl (PySem.Str.ofString "come") = some (.int put.length t4) ∧ V vl (PySem.Str.ofString "shift") = some (.int ((put.length : Int) - gone) ta) ∧ V vl (PySem.Str.ofString "first") = some (.int (ahead (mf x 0) place) tb) ∧
      V vl (PySem.Str.ofString "spot") = some (.int spot td) ∧ V vl (PySem.Str.ofString "last") = some (.int last te) ∧ V vl (PySem.Str.ofString "fresh") = some (.ref D) ∧
      Reps g' frv (fr.map encMark) ∧ spot ≤ (ap x place gone put).length ∧ LeftOk (mf x 0) (ahead (mf x 0) place) last ((spot : Int) - ((put.length : Int) - gone)) ∧
      mf (ap x place gone put) 0 = (mf x 0).take (ahead (mf x 0) place) ++ fr ++ mf ((ap x place gone put).drop spot) spot ∧ ∀ p ∈ fr, cnd (mf x 0) place gone put.length p.1 = true) ?_ ((ap x place gone put).length - q0) ?_
    · rintro k s4 R hK ⟨spot, last, fr, frv, n, g', vl, ta, tb, td, te, hk, S4, v1, v2, v3, v4, v5, v6, v7, v8, v9, hfr, hsp, hlo, hmf, hcn⟩
      have G' := G.mono S4.mono
      have hv' := hv.mono S4.mono
      have hlm' := S4.mono _ _ hlm
      have hrm' := hrm.mono S4.mono
      -- the test
      refine wpAny_mono (Q := fun b s5 => St s g g' (envC (nameOf 62) (scopeOf 62) L ad.mended cd) (V vl) [(D, lst frv n)] s5 ∧
        (b = true → spot < place + put.length ∨ (place + put.length ≤ spot ∧ ∃ p, (mf x 0)[last]? = some p ∧ p.1 ≠ (spot : Int) - ((put.length : Int) - gone))) ∧
        (b = false → place + put.length ≤ spot ∧ ∃ p, (mf x 0)[last]? = some p ∧ p.1 = (spot : Int) - ((put.length : Int) - gone))) ?_ ?_ fun _ _ x => x
      · walk_at "mine.go"
        refine r_if (fun h1 => ?_) fun h1 => ?_
        · have h1' : (spot : Int) < place + put.length := by simpa using h1
          exact ⟨by assumption, fun _ => .inl (by omega), fun h => nomatch h⟩
        · have h1' : ¬ (spot : Int) < place + put.length := by simpa using h1
          have hll := mend_last hp hlo (by omega) hsp
          obtain ⟨pl, hpl⟩ : ∃ p, (mf x 0)[last]? = some p := ⟨_, List.getElem?_eq_getElem hll⟩
          obtain ⟨v, hv1, hv2⟩ := encMarks_get hrm' hpl
          walk_at "mine.go"
          refine r_item (by assumption) hlm' (by omega) (by omega) (by simpa using hv1) ?_
          walk_at "mine.go"
          obtain ⟨b1, w1, n1, rfl, hb1, hrb1⟩ := hv2.list_inv
          cases hrb1 with
          | cons hi1 hrb1 =>
          obtain ⟨tq1, rfl⟩ := hi1.int_inv
          refine r_item (by assumption) hb1 (by omega) (by omega) rfl ?_
          walk_at "mine.go"
          refine r_if (fun h2 => ?_) fun h2 => ?_
          · have h2' : pl.1 ≠ (spot : Int) - ((put.length : Int) - gone) := by simpa using h2
            exact ⟨by assumption, fun _ => .inr ⟨by omega, pl, hpl, h2'⟩, fun h => nomatch h⟩
          · have h2' : pl.1 = (spot : Int) - ((put.length : Int) - gone) := by simpa using h2
            walk_at "mine.go"
            exact ⟨by assumption, fun h => (nomatch h), fun _ => ⟨by omega, pl, hpl, h2'⟩⟩
      · rintro b s5 ⟨S5, hbt, hbf⟩
        cases b with
        | true =>
          refine r_ift rfl ?_
          have hc := hbt rfl
          have hlt : spot < (ap x place gone put).length := by
            rcases hc with h | ⟨_, p, h1, h2⟩
            · exact mend_lt (b := (0, 0)) hp hlo hsp (.inl h)
            · exact mend_lt hp hlo hsp (.inr ⟨h1, h2⟩)
          have hnew : cnd (mf x 0) place gone put.length spot = true := by
            rcases hc with h | ⟨h0, p, h1, h2⟩
            · exact mend_new (b := (0, 0)) hp hlo (.inl h)
            · exact mend_new hp hlo (.inr ⟨h0, h1, h2⟩)
          have hfl : frv.length ≤ 1000 := by
            have e1 := congrArg List.length hmf
            have e2 := hfr.length
            have e3 := mf_len (ap x place gone put) 0
            rw [List.length_append, List.length_append] at e1
            rw [List.length_map] at e2
            omega
          have hz := pc_le hlt
          walk_at "mine.go"
          refine r_cwA G.piece ?_
          walk_at "mine.go"
          refine ⟨by walk_at "mine.le", ?_⟩
          refine r_call (by assumption) (piece_spec (Room.le hR.deeper (by omega)) (by walk_at "mine.le") G' M hax (by omega) hlt) ?_
          intro vp g2 s6 hle2 S6 hrp
          refine r_unp2i S6 hR.deeper.1 hrp ?_
          intro tk1 tk2 s7 S7
          walk_at "mine.go"
          refine r_new (by assumption) (by walk_at "mine.sz") ?_
          intro bq g3 s8 hle3 hbq S8
          have G3 := G'.mono (Le.trans hle2 hle3)
          walk_at "mine.go"
          refine r_ckD G.left ?_
          walk_at "mine.go"
          refine ⟨by walk_at "mine.le", ?_⟩
          refine r_callI (by assumption) (left_spec (lo₀ := ahead (mf x 0) place) (Room.le hR.deeper (by omega)) (by walk_at "mine.le") G3 M (hv'.mono (Le.trans hle2 hle3)) (by omega) hms hal) ?_
          rintro _ s9 S9 ⟨l1, tl1, rfl, hl1⟩
          walk_at "mine.go"
          refine ⟨(ap x place gone put).length - (spot + (pc ((ap x place gone put).drop spot)).2), by omega, spot + (pc ((ap x place gone put).drop spot)).2, l1, fr ++ [((spot : Int), (pc ((ap x place gone put).drop spot)).1)], frv ++ [.ref bq], _, g3, _, _, _, _, _, rfl, by assumption, by walk_at "mine.v", by walk_at "mine.v", by walk_at "mine.v", by walk_at "mine.v", by walk_at "mine.v", by walk_at "mine.v", by walk_at "mine.v", by walk_at "mine.v", by walk_at "mine.v", ?_, by omega, ⟨hl1.1, hl1.2.1, ?_, ?_⟩, ?_, ?_⟩
          · rw [List.map_append]
            exact (hfr.mono (Le.trans hle2 hle3)).append (.one (.list hbq (.cons (.int _ _) (.cons (.int _ _) .nil))))
          · intro i p h1 h2 h3
            have := hl1.2.2.1 i p h1 h2 h3
            omega
          · intro i p h1 h2
            have := hl1.2.2.2 i p h1 h2
            omega
          · rw [hmf, mf_step hlt]; simp
          · intro p hpm
            rcases List.mem_append.mp hpm with h | h
            · exact hcn p h
            · rw [List.mem_singleton] at h; subst h; exact hnew
        | false =>
          refine r_iff rfl ?_
          refine hK _ _ ?_
          obtain ⟨hc, pl, hpl, hpe⟩ := hbf rfl
          obtain ⟨gF, hgF, hDF, SF⟩ := S5.freezeE
          have GF := G'.mono hgF
          have hll : last ≤ (mf x 0).length := hlo.upt
          have hvl : vs.length = (mf x 0).length := by rw [hrm.length, List.length_map]
          walk_at "mine.go"
          refine r_acomp (cl := [(PySem.Str.ofString "shift", L + 1)]) (by rfl) (by rfl) (by rfl) (by decide) ?_
          walk_at "mine.go"
          refine r_lsl (ws := vs.drop last) (by assumption) (hgF _ _ hlm') (by walk_at "mine.sz") (.int _ _) .none (by simpa using slicePick_from' vs.toArray last) ?_
          intro lw gw s6 hlew hlw S6
          refine r_ago0 (cvl := [(PySem.Str.ofString "shift", .int ((put.length : Int) - gone) ta)]) S6 hR.deeper.1 hlw (by rw [List.length_drop]; omega) ?_ (by decide) rfl ?_ ?_ (by simp) ?_
            (fun i ys g2 => Reps g2 ys ((((mf x 0).drop last).take i).map fun p => encMark (p.1 + ((put.length : Int) - gone), p.2))) (fun cvl => V cvl (PySem.Str.ofString "shift") = some (.int ((put.length : Int) - gone) ta)) (by simpa using Reps.nil) rfl ?_ (by rfl) ?_
          · refine .inr ⟨⟨_, _, _, rfl⟩, (hrm.drop last).refs fun d hd => ?_⟩
            obtain ⟨p, _, rfl⟩ := List.mem_map.mp (List.mem_of_mem_drop hd)
            exact ⟨_, rfl⟩
          · intro p hp'
            rw [List.mem_singleton] at hp'; subst hp'
            exact ⟨List.mem_cons_self, (show V _ _ = _ from rfl).trans v5.symm⟩
          · intro p hp'
            rw [List.mem_singleton] at hp'; subst hp'
            rfl
          · refine loc_none fun p hp' => ?_
            rw [List.mem_singleton] at hp'; subst hp'
            exact fun h => by cases (show some NameKind.cell = some NameKind.local from h)
          · intro C i v ys g2 cvl pI pD s7 hv7 hJ7 hle7 hK7 S7
            rw [List.getElem?_drop] at hv7
            obtain ⟨d, hd1, hd2⟩ := hrm.getV hv7
            rw [List.getElem?_map] at hd1
            obtain ⟨p, hp1, rfl⟩ := Option.map_eq_some_iff.mp hd1
            refine r_unp2i S7 hR.deeper.1 (Rep.mono hle7 (Rep.mono hlew (Rep.mono hgF (Rep.mono S4.mono hd2)))) ?_
            intro tk1 tk2 s8 S8
            walk_at "mine.go"
            refine r_new (by assumption) (by walk_at "mine.sz") ?_
            intro bq g3 s9 hle3 hbq S9
            refine ⟨g3, _, ?_, hle3, ?_, S9⟩
            · rw [List.take_add_one, List.getElem?_drop, hp1, Option.toList_some, List.map_append]
              exact (hJ7.mono hle3).append (.one (.list hbq (.cons (.int _ _) (.cons (.int _ _) .nil))))
            · walk_at "mine.v"
          · intro ys E n7 g2 g3 s7 hJ7 hle7 hle8 hE S7
            have G7 := GF.mono (Le.trans hlew hle7)
            walk_at "mine.go"
            refine r_lsl (ws := vs.take (ahead (mf x 0) place)) (by assumption) (hle7 _ _ (hlew _ _ (hgF _ _ hlm'))) (by walk_at "mine.sz") .none (.int _ _) (by simpa using slicePick_upto' vs.toArray (ahead (mf x 0) place)) ?_
            intro la ga s8 hlea hla S8
            walk_at "mine.go"
            have hfl : frv.length ≤ 1000 := by
              have e1 := congrArg List.length hmf
              have e2 := hfr.length
              have e3 := mf_len (ap x place gone put) 0
              rw [List.length_append, List.length_append] at e1
              rw [List.length_map] at e2
              omega
            have hyl : ys.length ≤ 1000 := by
              have := hJ7.length
              rw [List.length_map, List.length_take, List.length_drop] at this
              omega
            have hDa : ga D = some (lst frv n) := hlea _ _ (hle7 _ _ (hlew _ _ hDF))
            refine r_ladd (by assumption) hla hDa (by walk_at "mine.sz") ?_
            intro lb gb s9 hleb hlb S9
            walk_at "mine.go"
            refine r_ladd (by assumption) hlb (hleb _ _ (hlea _ _ hE)) (by walk_at "mine.sz") ?_
            intro lc gc s10 hlec hlc S10
            have G10 := G7.mono (Le.trans hlea (Le.trans hleb hlec))
            walk_at "mine.go"
            refine r_len (by assumption) (hlec _ _ (hleb _ _ hDa)) (by walk_at "mine.sz") ?_
            intro t11 s11 S11
            walk_at "mine.go"
            refine r_new (by assumption) (by walk_at "mine.sz") ?_
            intro lz gz s12 hlez hlz S12
            walk_at "mine.go"
            refine St.done (by assumption) (.list hlz (.cons (.list (hlez _ _ hlc) ?_) (.cons ?_ .nil)))
            · rw [hmf, ← mend_moved hp hc hpl hpe, List.map_append, List.map_append, List.map_take]
              have up1 : Le gF gz := Le.trans hlew (Le.trans hle7 (Le.trans hlea (Le.trans hleb (Le.trans hlec hlez))))
              have up2 : Le g2 gz := Le.trans hle8 (Le.trans hlea (Le.trans hleb (Le.trans hlec hlez)))
              refine (((hrm'.mono (Le.trans hgF up1)).take _).append (hfr.mono (Le.trans hgF up1))).append ?_
              have := hJ7.mono up2
              rw [List.take_of_length_le (by simp [hvl])] at this
              rw [List.map_map]
              exact this
            · rw [mend_count hp hc hpl hpe hmf hcn]
              have : ((ahead (mf x 0) place + fr.length : Nat) : Int) - (ahead (mf x 0) place : Nat) = (frv.length : Nat) := by
                have e2 := hfr.length
                rw [List.length_map] at e2
                omega
              rw [this]
              exact .int _ _
    · refine ⟨q0, l0, [], [], _, _, _, _, _, _, _, rfl, by assumption, by walk_at "mine.v", by walk_at "mine.v", by walk_at "mine.v", by walk_at "mine.v", by walk_at "mine.v", by walk_at "mine.v", by walk_at "mine.v", by walk_at "mine.v", by walk_at "mine.v", .nil, by omega, hl0', ?_, fun p hp => nomatch hp⟩
      rw [List.append_nil]; exact hq3
end
end
section
open PySem PySem.W PySem.Calls PyProof PyProof.Rows
noncomputable def encEdit (e : Edit) : PyData := .list [.int e.1, .int e.2.1, .str (Tx e.2.2)]
noncomputable def ans (t : List Nat) (e : Edit) : PyData :=
  .list [encMarks (mf (ap t e.1 e.2.1 e.2.2) 0), .int ((upto (mf t 0) e.1 e.2.1 e.2.2.length (mf (ap t e.1 e.2.1 e.2.2) 0) : Int) - (ahead (mf t 0) e.1 : Nat))]
noncomputable def ansL (es : List Edit) (n : Nat) : List PyData := (List.range n).map fun j => ans (endT (es.take j)) (es.getD j (0, 0, []))
noncomputable def cntM (t : List Nat) (i : Nat) : Nat := ((mf t 0).filter fun x => x.1 ≤ (i : Int)).length
noncomputable def hold (t : List Nat) (i : Nat) : PyData := .list [.int ((mf t 0).getD (cntM t i - 1) (0, 0)).1, .bool (decide (i = t.length)), .bool (!decide (t[i]? = some 97)), .bool (decide (t[i]? = some 97))]
noncomputable def holdL (t : List Nat) (n : Nat) : List PyData := (List.range n).map (hold t)
noncomputable def spec (es : List Edit) : PyData := .list [.list (ansL es es.length), .list (holdL (endT es) ((endT es).length + 1))]
theorem ansL_succ {es : List Edit} {i : Nat} {e : Edit} (h : es[i]? = some e) : ansL es (i + 1) = ansL es i ++ [ans (endT (es.take i)) e] := by
  unfold ansL
  rw [List.range_succ, List.map_append, List.map_singleton, List.getD_eq_getElem?_getD, h]; rfl
theorem holdL_succ (t : List Nat) (i : Nat) : holdL t (i + 1) = holdL t i ++ [hold t i] := by
  unfold holdL
  rw [List.range_succ, List.map_append, List.map_singleton]

theorem kept_ok : ScopeOk (scopeOf 63) := ⟨rfl, rfl, rfl, by decide, by decide⟩
section
variable {prog : Program} {w : World} {A : Around} {s : Shared} {g : Gh} {mg : PySem.Str → Option Value} {ad : Ads}
set_option maxHeartbeats 4000000 in
theorem kept_spec {ev : Value} {es : List Edit} (hR : Room 20 A) (hg : Le g s.heap.get?) (G : Glb prog w g mg ad) (M : Nms mg ad) (hv : Rep g ev (.list (es.map encEdit))) (hok : EdOk es) :
    wpAny (model prog w) A (call (.ref ad.kept) [ev]) (Ret s g fun g' r => Rep g' r (spec es)) Never s := by
  refine call_fnA (binds := [(PySem.Str.ofString "edits", ev)]) (hR.le (by omega)) hg G.top G.kept kept_ok (fun _ _ _ _ _ => BindsTo.of_eq (by rfl)) ?_ ?_
  · intro n x hx
    simp only [List.mem_singleton] at hx
    subst hx
    exact .inl rfl
  · intro cd L s' S R₀ hR₀
    obtain ⟨le, ve, ne, rfl, hle, hre⟩ := hv.list_inv
    have hvel : ve.length = es.length := by rw [hre.length, List.length_map]
    refine execs_gen fun R₁ hR₁ => ?_
    walk_at "mine.go"
    refine r_new (by assumption) (by walk_at "mine.sz") ?_
    intro b1 g1 s1 hl1 hb1 S1
    walk_at "mine.go"
    refine r_new (by assumption) (by walk_at "mine.sz") ?_
    intro b2 g2 s2 hl2 hb2 S2
    walk_at "mine.go"
    refine r_newO (by assumption) (by walk_at "mine.sz") ?_
    intro D s3 S3
    walk_at "mine.go"
    have hle2 := hl2 _ _ (hl1 _ _ hle)
    refine r_for hR.deeper.1 (by assumption) hle2 (fun i vl' g' own' => ∃ av n mv tt, own' = [(D, lst av n)] ∧ V vl' (PySem.Str.ofString "text") = some (.str (Tx (endT (es.take i))) tt) ∧ V vl' (PySem.Str.ofString "marks") = some mv ∧ V vl' (PySem.Str.ofString "answers") = some (.ref D) ∧
      Reps g' av (ansL es i) ∧ Rep g' mv (encMarks (mf (endT (es.take i)) 0))) ?_ ?_ ?_ ?_
    · refine ⟨[], 0, _, _, rfl, rfl, rfl, rfl, .nil, ?_⟩
      have e : mf (endT (es.take 0)) 0 = [(0, 0)] := mf_nil 0
      rw [e]
      exact .list hb2 (.cons (.list (hl2 _ _ hb1) (.cons (.int _ _) (.cons (.int _ _) .nil))) .nil)
    · rintro i v vl' g' own' it s4 R hK hvi ⟨av, n, mv, tt, rfl, v1, v2, v3, hav, hmv⟩ hle' S4
      have hup : Le g g' := Le.trans hl1 (Le.trans hl2 hle')
      have G' := G.mono hup
      obtain ⟨d, hd1, hd2⟩ := hre.getV hvi
      rw [List.getElem?_map] at hd1
      obtain ⟨e, he, rfl⟩ := Option.map_eq_some_iff.mp hd1
      have hil : i < es.length := by
        by_cases h : i < es.length
        · exact h
        · rw [List.getElem?_eq_none (by omega)] at he; cases he
      obtain ⟨ok1, ok2, ok3⟩ := hok.2 i e he
      obtain ⟨al, tl⟩ := endT_ok hok i (by omega)
      have h20 := hok.1
      have hapl := ap_len (put := e.2.2) ok1
      have havl : av.length ≤ 1000 := by
        have := hav.length
        unfold ansL at this
        rw [List.length_map, List.length_range] at this
        omega
      refine r_unp3i S4 hR.deeper.1 (Rep.mono hup hd2) ?_
      intro tk1 tk2 tk3 s5 S5
      walk_at "mine.go"
      refine r_sl_ns (b := e.1) (by assumption) (by walk_at "mine.sz") rfl ?_
      intro t6 s6 S6
      walk_at "mine.go"
      refine r_sadd (by assumption) (by walk_at "mine.sz") ?_
      intro t7 s7 S7
      walk_at "mine.go"
      refine r_sl_sn (a := e.1 + e.2.1) (by assumption) (by walk_at "mine.sz") (by omega) ?_
      intro t8 s8 S8
      refine r_sadd (by assumption) (by walk_at "mine.sz") ?_
      intro t9 s9 S9
      walk_at "mine.go"
      refine r_cwA G.mended ?_
      walk_at "mine.go"
      refine r_slen (by assumption) (by walk_at "mine.sz") ?_
      intro t10 s10 S10
      walk_at "mine.go"
      refine ⟨by walk_at "mine.le", ?_⟩
      refine r_call (by assumption) (mended_spec (x := endT (es.take i)) (put := e.2.2) (place := e.1) (gone := e.2.1) (Room.le hR.deeper (by omega)) (by walk_at "mine.le") G' M hmv al ok2 (by omega) ok1) ?_
      intro vr g3 s11 hle3 S11 hr11
      obtain ⟨b3, w3, n3, rfl, hb3, hr3⟩ := hr11.list_inv
      cases hr3 with
      | cons hm1 hr3 =>
      cases hr3 with
      | cons hm2 hr3 =>
      cases hr3
      obtain ⟨tr, rfl⟩ := hm2.int_inv
      refine r_unp2 S11 hR.deeper.1 hb3 ?_
      intro s12 S12
      walk_at "mine.go"
      refine r_new (by assumption) (by walk_at "mine.sz") ?_
      intro b4 g4 s13 hle4 hb4 S13
      walk_at "mine.go"
      refine ⟨_, g4, [(D, lst (av ++ [.ref b4]) _)], by assumption, Le.trans hle3 hle4, av ++ [.ref b4], _, _, t9, rfl, ?_, by walk_at "mine.v", by walk_at "mine.v", ?_, ?_⟩
      · rw [endT_succ he]; exact rfl
      · rw [ansL_succ he]
        refine (hav.mono (Le.trans hle3 hle4)).append (.one (.list hb4 (.cons (hm1.mono hle4) (.cons (.int _ _) .nil))))
      · rw [endT_succ he]; exact hm1.mono hle4
    · rintro vl' g' own' s4 ⟨av, n, mv, tt, rfl, v1, v2, v3, hav, hmv⟩ hle' S4
      rw [hvel] at v1 hav hmv
      rw [List.take_length] at v1 hmv
      obtain ⟨al, tl⟩ := endT_ok hok es.length (Nat.le_refl _)
      rw [List.take_length] at al tl
      have h20 := hok.1
      obtain ⟨gF, hgF, hDF, SF⟩ := S4.freezeE
      have hup : Le g gF := Le.trans hl1 (Le.trans hl2 (Le.trans hle' hgF))
      have GF := G.mono hup
      have hmv := hmv.mono hgF
      have hav := hav.mono hgF
      walk_at "mine.go"
      refine r_newO (by assumption) (by walk_at "mine.sz") ?_
      intro D2 s5 S5
      walk_at "mine.go"
      refine r_slen (by assumption) (by walk_at "mine.sz") ?_
      intro t6 s6 S6
      walk_at "mine.go"
      refine r_range (n := (endT es).length + 1) (by assumption) (by omega) ?_
      intro ra gR s7 ta tb tc hleR hra S7
      have GR := GF.mono hleR
      obtain ⟨lm, vm, nm, rfl, hlm, hrm⟩ := hmv.list_inv
      have hvml : vm.length = (mf (endT es) 0).length := by rw [hrm.length, List.length_map]
      have hml := mf_len (endT es) 0
      refine r_forR hR.deeper.1 (by assumption) hra (by omega) (fun i vl' g' own' => ∃ hw n, own' = [(D2, lst hw n)] ∧ V vl' (PySem.Str.ofString "marks") = some (.ref lm) ∧ V vl' (PySem.Str.ofString "answers") = some (.ref D) ∧ V vl' (PySem.Str.ofString "holders") = some (.ref D2) ∧
        Reps g' hw (holdL (endT es) i)) ?_ ?_ ?_ (fun _ _ => rfl)
      · exact ⟨[], 0, rfl, by walk_at "mine.v", by walk_at "mine.v", by walk_at "mine.v", .nil⟩
      · rintro i ti vl2 g2' own2 it s8 R hK hi ⟨hw, n8, rfl, w1, w2, w3, hhw⟩ hle8 S8
        have G8 := GR.mono hle8
        have up8 : Le gF g2' := Le.trans hleR hle8
        have hwl : hw.length ≤ 1000 := by
          have := hhw.length
          unfold holdL at this
          rw [List.length_map, List.length_range] at this
          omega
        walk_at "mine.go"
        refine r_ckD G.right ?_
        walk_at "mine.go"
        refine ⟨by walk_at "mine.le", ?_⟩
        refine r_callI (by assumption) (right_spec (ms := mf (endT es) 0) (Room.le hR.deeper (by omega)) (by walk_at "mine.le") G8 M ((Rep.list hlm hrm).mono up8) (by omega) (mf_sorted _ _)) ?_
        rintro rv s9 S9 ⟨tf, hrv⟩
        have hrv : rv = .int (cntM (endT es) i : Nat) tf := hrv
        subst hrv
        obtain ⟨hc1, st, k, hst, hk0, hk9⟩ := mf_holds (endT es) 0 al i (Nat.zero_le _) (by omega)
        have hc1 : 1 ≤ cntM (endT es) i := hc1
        have hc2 : cntM (endT es) i ≤ (mf (endT es) 0).length := List.length_filter_le _ _
        have hst : (mf (endT es) 0)[cntM (endT es) i - 1]? = some (st, k) := hst
        walk_at "mine.go"
        obtain ⟨v0, hv0, hr0⟩ := encMarks_get hrm hst
        refine r_item (by assumption) (up8 _ _ hlm) (by omega) (by omega) (by rw [show ((cntM (endT es) i : Nat) : Int) - 1 = ((cntM (endT es) i - 1 : Nat) : Int) by omega, Int.toNat_natCast]; exact hv0) ?_
        refine r_unp2i (by assumption) hR.deeper.1 (Rep.mono up8 hr0) ?_
        intro tq0 tq1 s10 S10
        walk_at "mine.go"
        refine r_cwA G.eof ?_
        walk_at "mine.go"
        refine ⟨by walk_at "mine.le", ?_⟩
        refine r_callI (by assumption) (eof_spec (Room.le hR.deeper (by omega)) (by walk_at "mine.le") G8 M) ?_
        rintro _ s11 S11 rfl
        walk_at "mine.go"
        refine r_cwA G.term ?_
        walk_at "mine.go"
        refine ⟨by walk_at "mine.le", ?_⟩
        refine r_callI (by assumption) (term_spec (Room.le hR.deeper (by omega)) (by walk_at "mine.le") G8 M) ?_
        rintro _ s12 S12 rfl
        walk_at "mine.go"
        refine r_cwA G.nonterm ?_
        walk_at "mine.go"
        refine ⟨by walk_at "mine.le", ?_⟩
        refine r_callI (by assumption) (nonterm_spec (Room.le hR.deeper (by omega)) (by walk_at "mine.le") G8 M) ?_
        rintro _ s13 S13 rfl
        walk_at "mine.go"
        refine r_new (by assumption) (by walk_at "mine.sz") ?_
        intro b4 g4 s14 hle4 hb4 S14
        walk_at "mine.go"
        refine ⟨_, g4, [(D2, lst (hw ++ [.ref b4]) _)], by assumption, hle4, hw ++ [.ref b4], _, rfl, by walk_at "mine.v", by walk_at "mine.v", by walk_at "mine.v", ?_⟩
        rw [holdL_succ]
        refine (hhw.mono hle4).append (.one ?_)
        unfold hold
        have e1 : ((mf (endT es) 0).getD (cntM (endT es) i - 1) (0, 0)).1 = st := by rw [List.getD_eq_getElem?_getD, hst]; rfl
        have e2 : (k == 0) = decide (i = (endT es).length) := by
          rw [Nat.zero_add] at hk0
          by_cases h : i = (endT es).length
          · rw [decide_eq_true h]; simpa using hk0.mpr h
          · rw [decide_eq_false h]; simpa using fun e => h (hk0.mp e)
        have e3 : decide (256 ≤ k) = decide ((endT es)[i]? = some 97) := by
          rw [Nat.sub_zero] at hk9
          exact decide_eq_decide.mpr hk9
        have e4 : decide (k < 256) = !decide ((endT es)[i]? = some 97) := by
          rw [← e3]
          by_cases h : 256 ≤ k
          · rw [decide_eq_true h, decide_eq_false (by omega)]; rfl
          · rw [decide_eq_false h, decide_eq_true (by omega)]; rfl
        rw [e1, ← e2, ← e4, ← e3]
        exact .list hb4 (.cons (.int _ _) (.cons (.bool _) (.cons (.bool _) (.cons (.bool _) .nil))))
      · rintro vl2 g2' own2 s8 ⟨hw, n8, rfl, w1, w2, w3, hhw⟩ hle8 S8
        obtain ⟨gH, hgH, hDH, SH⟩ := S8.freezeE
        walk_at "mine.go"
        refine r_new (by assumption) (by walk_at "mine.sz") ?_
        intro b4 g4 s14 hle4 hb4 S14
        walk_at "mine.go"
        refine St.done (by assumption) ?_
        have up : Le gF g4 := Le.trans hleR (Le.trans hle8 (Le.trans hgH hle4))
        exact .list hb4 (.cons (.list (up _ _ hDF) (hav.mono up)) (.cons (.list (hle4 _ _ hDH) (hhw.mono (Le.trans hgH hle4))) .nil))
    · refine .inr ⟨⟨_, _, _, rfl⟩, hre.refs fun d hd => ?_⟩
      obtain ⟨p, _, rfl⟩ := List.mem_map.mp hd
      exact ⟨_, rfl⟩
end
end
section
open PySem PySem.W PySem.Calls PyProof PyProof.Rows
section
variable {prog : Program} {w : World} {A : Around} {E : Value → Shared → Prop} {s₀ s : Shared} {g₀ g : Gh} {env : Env} {vl : List (PySem.Str × Value)} {own : List (Addr × Obj)} {Q : Value → Shared → Prop}
theorem r_seqL {x y : List Nat} {z : PySem.Str} {t u : Tok} (hz : z = Tx y) (h : Q (.bool (decide (x = y))) s) : wpAny (model prog w) A (compareOp .Eq (.str (Tx x) t) (.str z u)) Q E s := by subst hz; exact r_seq h
theorem r_sneL {x y : List Nat} {z : PySem.Str} {t u : Tok} (hz : z = Tx y) (h : Q (.bool (!decide (x = y))) s) : wpAny (model prog w) A (compareOp .NotEq (.str (Tx x) t) (.str z u)) Q E s := by subst hz; exact r_sne h
theorem any_Tx (l : List (List Nat)) (x : List Nat) : (l.map Tx).any (· == Tx x) = l.contains x := by
  induction l with
  | nil => rfl
  | cons y r ih =>
    rw [List.map_cons, List.any_cons, ih, beq_Tx, List.contains_cons]
    congr 1
    by_cases h : y = x
    · subst h; simp
    · have : ¬ x = y := fun e => h e.symm
      simp [h, this]
theorem r_inL {l : Addr} {vs : List Value} {n : Nat} {ys : List (List Nat)} {x : List Nat} {t : Tok} (S : St s₀ g₀ g env (V vl) own s) (hl : g l = some (lst vs n)) (hs : StrsAre vs (ys.map Tx)) (h : Q (.bool (ys.contains x)) s) :
    wpAny (model prog w) A (compareOp .In (.str (Tx x) t) (.ref l)) Q E s := in_list_strs (lst_isList (S.keep _ _ hl)) hs (by rw [any_Tx]; exact h)
theorem r_inS {c : Nat} {t u : Tok} (hc : c ∈ signs8) (h : Q (.bool ([42, 47, 60, 62, 45, 61].contains c)) s) : wpAny (model prog w) A (compareOp .In (.str (Tx [c]) t) (.str (PySem.Str.ofString "*/<>-=") u)) Q E s := by
  refine PyProof.Rows.in_str ?_
  have e : (!(Builtin.Str.occurrences (PySem.Str.ofString "*/<>-=") (Tx [c]) 0 (PySem.Str.ofString "*/<>-=").length 1).isEmpty) = [42, 47, 60, 62, 45, 61].contains c := by
    unfold signs8 at hc
    simp only [List.mem_cons, List.not_mem_nil, or_false] at hc
    rcases hc with rfl | rfl | rfl | rfl | rfl | rfl | rfl | rfl <;> decide +kernel
  rw [e]; exact h
end
theorem execs_cut {prog : Program} {w : World} {A : Around} {s : Shared} {env : Env} {st : Stmt} {rest : List Stmt} {Q : Flow → Shared → Prop} (P : Shared → Prop) (h1 : wpAny (model prog w) A (exec st env) (fun f s₁ => f = .next ∧ P s₁) Never s)
    (h2 : ∀ s₁, P s₁ → wpAny (model prog w) A (execs rest env) Q Never s₁) : wpAny (model prog w) A (execs (st :: rest) env) Q Never s :=
  wpAny_execs_cons (wpAny_mono h1 (fun f s₁ h => by obtain ⟨rfl, h⟩ := h; exact h2 s₁ h) fun _ _ x => x)
theorem cut_ok : ScopeOk (scopeOf 64) := ⟨rfl, rfl, rfl, by decide, by decide⟩
section
variable {prog : Program} {w : World} {A : Around} {s : Shared} {g gF : Gh} {mg : PySem.Str → Option Value} {ad : Ads}
set_option maxHeartbeats 400000 in
theorem cut_rest {x : List Nat} {t : Tok} {L : Addr} {cd : Value} {vl : List (PySem.Str × Value)} {d : Addr} {f : PySem.Str → Option Value} {s' : Shared} (hh : A.handled = none) (G : Glb prog w gF mg ad) (M : Nms mg ad) (hx : Alph x) (hsz : x.length ≤ 900)
    (S : St s g gF (envC (nameOf 64) (scopeOf 64) L ad.cut cd) (V vl) [] s') (v1 : V vl (PySem.Str.ofString "text") = some (.str (Tx x) t)) (v2 : V vl (PySem.Str.ofString "kinds") = some (.ref d))
    (hDf : DictG prog w gF d f) (hval : ∀ l k, kt l = some k → ∃ t, f (Tx l) = some (.int k t)) :
    wpAny (model prog w) A (execs ((bodyOf 64).drop 3) (envC (nameOf 64) (scopeOf 64) L ad.cut cd)) (fun f s'' => Ret s g (fun g' r => Rep g' r (encMarks (mf x 0))) (match f with | .ret v => v | _ => .none) s'') Never s' := by
  refine execs_gen fun R₁ hR₁ => ?_
  walk_at "mine.go"
  refine r_newO (by assumption) (by walk_at "mine.sz") ?_
  intro D s9 S9
  walk_at "mine.go"
  refine r_while (fun k s' => ∃ (spot : Nat) (fr : List (Int × Int)) (mv : List Value) (n : Nat) (g' : Gh) (vl : List (PySem.Str × Value)) (td : Tok),
      k = x.length - spot ∧ St s g g' (envC (nameOf 64) (scopeOf 64) L ad.cut cd) (V vl) [(D, lst mv n)] s' ∧ Le gF g' ∧
      V vl (PySem.Str.ofString "text") = some (.str (Tx x) t) ∧ V vl (PySem.Str.ofString "kinds") = some (.ref d) ∧ V vl (PySem.Str.ofString "marks") = some (.ref D) ∧ V vl (PySem.Str.ofString "spot") = some (.int spot td) ∧
      Reps g' mv (fr.map encMark) ∧ spot ≤ x.length ∧ fr.length ≤ spot ∧ mf x 0 = fr ++ mf (x.drop spot) spot) ?_ x.length ?_
  · rintro k s4 R hK ⟨spot, fr, mv, n, g', vl, td, hk, S4, hle, v1, v2, v3, v4, hfr, hsp, hfl, hmf⟩
    have G1 := G.mono hle
    have hml : mv.length ≤ 900 := by
      have := hfr.length
      rw [List.length_map] at this
      omega
    walk_at "mine.go"
    refine r_slen (by assumption) (by walk_at "mine.sz") ?_
    intro t5 s5 S5
    walk_at "mine.go"
    refine r_if (fun hlt => ?_) fun hge => ?_
    · have hlt' : spot < x.length := by simpa using hlt
      obtain ⟨c, hc⟩ : ∃ c, x[spot]? = some c := ⟨x[spot], List.getElem?_eq_getElem hlt'⟩
      have hcs : c ∈ signs8 := hx c (List.mem_of_getElem? hc)
      have hne : x.drop spot ≠ [] := by
        intro e
        have := congrArg List.length e
        simp at this; omega
      have hhd : (x.drop spot).headD 0 = c := by
        rw [List.headD_eq_head?_getD, List.head?_drop, hc]; rfl
      obtain ⟨hp1, hp2⟩ := sh_pc hne (hx.drop spot)
      have hpl := pc_le hlt'
      walk_at "mine.go"
      refine r_sl_ss (a := spot) (b := spot + 2) (by assumption) (by walk_at "mine.sz") rfl (by omega) ?_
      intro t6 s6 S6
      rw [Nat.add_sub_cancel_left]
      walk_at "mine.1"
      walk_at "mine.1"
      walk_at "mine.1"
      walk_at "mine.1"
      walk_at "mine.1"
      walk_at "mine.1"
      walk_at "mine.1"
      (with_reducible show wpAny _ _ (execs (_ :: _) _) _ _ _)
      refine execs_cut (fun s7 => ∃ vl' g'' tp tz, St s g g'' (envC (nameOf 64) (scopeOf 64) L ad.cut cd) (V vl') [(D, lst mv n)] s7 ∧ Le g' g'' ∧
        V vl' (PySem.Str.ofString "text") = some (.str (Tx x) t) ∧ V vl' (PySem.Str.ofString "kinds") = some (.ref d) ∧ V vl' (PySem.Str.ofString "marks") = some (.ref D) ∧ V vl' (PySem.Str.ofString "spot") = some (.int spot td) ∧
        V vl' (PySem.Str.ofString "pair") = some (.str (Tx ((x.drop spot).take 2)) tp) ∧ V vl' (PySem.Str.ofString "size") = some (.int (sh0 (x.drop spot)) tz)) ?_ ?_
      · walk_at "mine.go"
        refine r_sl_ss (a := spot) (b := spot + 3) (by assumption) (by walk_at "mine.sz") rfl (by omega) ?_
        intro t7 s7 S7
        rw [Nat.add_sub_cancel_left]
        walk_at "mine.go"
        refine r_seqL (y := [46, 46, 46]) (by decide +kernel) ?_
        walk_at "mine.go"
        refine r_if (fun h => ?_) fun h => ?_
        · have h' : (x.drop spot).take 3 = [46, 46, 46] := by simpa using h
          walk_at "mine.go"
          have e : sh0 (x.drop spot) = 3 := by unfold sh0; rw [if_pos h']
          rw [e]
          exact ⟨rfl, _, _, _, _, by assumption, Le.refl _, by walk_at "mine.v", by walk_at "mine.v", by walk_at "mine.v", by walk_at "mine.v", by walk_at "mine.v", by walk_at "mine.v"⟩
        · have h' : ¬ (x.drop spot).take 3 = [46, 46, 46] := by simpa using h
          walk_at "mine.go"
          refine r_new (by assumption) (by walk_at "mine.sz") ?_
          intro l2 g2 s8 hle2 hl2 S8
          walk_at "mine.go"
          refine r_inL (ys := [[42, 42], [47, 47], [60, 60], [62, 62], [45, 62]]) (by assumption) hl2 ?_ ?_
          · have e : [[42, 42], [47, 47], [60, 60], [62, 62], [45, 62]].map Tx = [PySem.Str.ofString "**", PySem.Str.ofString "//", PySem.Str.ofString "<<", PySem.Str.ofString ">>", PySem.Str.ofString "->"] := by decide +kernel
            rw [e]
            exact .cons _ _ (.cons _ _ (.cons _ _ (.cons _ _ (.cons _ _ .nil))))
          · walk_at "mine.go"
            refine r_if (fun h2 => ?_) fun h2 => ?_
            · walk_at "mine.go"
              have e : sh0 (x.drop spot) = 2 := by unfold sh0; rw [if_neg h', if_pos h2]
              rw [e]
              exact ⟨rfl, _, _, _, _, by assumption, hle2, by walk_at "mine.v", by walk_at "mine.v", by walk_at "mine.v", by walk_at "mine.v", by walk_at "mine.v", by walk_at "mine.v"⟩
            · walk_at "mine.go"
              have e : sh0 (x.drop spot) = 1 := by unfold sh0; rw [if_neg h', if_neg (by rw [h2]; decide)]
              rw [e]
              exact ⟨rfl, _, _, _, _, by assumption, hle2, by walk_at "mine.v", by walk_at "mine.v", by walk_at "mine.v", by walk_at "mine.v", by walk_at "mine.v", by walk_at "mine.v"⟩
      · rintro s7 ⟨vl', g'', tp, tz, S7, hle7, w1, w2, w3, w4, w5, w6⟩
        refine execs_cut (fun s7 => ∃ vl' tz, St s g g'' (envC (nameOf 64) (scopeOf 64) L ad.cut cd) (V vl') [(D, lst mv n)] s7 ∧
          V vl' (PySem.Str.ofString "text") = some (.str (Tx x) t) ∧ V vl' (PySem.Str.ofString "kinds") = some (.ref d) ∧ V vl' (PySem.Str.ofString "marks") = some (.ref D) ∧ V vl' (PySem.Str.ofString "spot") = some (.int spot td) ∧
          V vl' (PySem.Str.ofString "size") = some (.int (sh (x.drop spot)) tz)) ?_ ?_
        · walk_at "mine.go"
          refine r_sign (a := spot) (c := c) (by assumption) rfl (by omega) hc ?_
          intro t8 s8 S8
          walk_at "mine.go"
          refine r_inS hcs ?_
          walk_at "mine.go"
          refine r_if (fun h1 => ?_) fun h1 => ?_
          · walk_at "mine.go"
            refine r_sneL (y := [45, 62]) (by decide +kernel) ?_
            walk_at "mine.go"
            refine r_if (fun h2 => ?_) fun h2 => ?_
            · walk_at "mine.go"
              refine r_sl_ss (a := spot + sh0 (x.drop spot)) (b := spot + sh0 (x.drop spot) + 1) (by assumption) (by walk_at "mine.sz") (by omega) (by omega) ?_
              intro t9 s9 S9
              rw [Nat.add_sub_cancel_left]
              walk_at "mine.go"
              refine r_seqL (y := [61]) (by decide +kernel) ?_
              walk_at "mine.go"
              refine r_if (fun h3 => ?_) fun h3 => ?_
              · walk_at "mine.go"
                refine r_ift rfl ?_
                walk_at "mine.go"
                have e : sh (x.drop spot) = sh0 (x.drop spot) + 1 := by
                  unfold sh shB; rw [hhd, h1, h2, List.drop_drop, h3]; rfl
                rw [e]
                exact ⟨rfl, _, _, by assumption, by walk_at "mine.v", by walk_at "mine.v", by walk_at "mine.v", by walk_at "mine.v", by walk_at "mine.v"⟩
              · walk_at "mine.go"
                refine r_iff rfl ?_
                walk_at "mine.go"
                have e : sh (x.drop spot) = sh0 (x.drop spot) := by
                  unfold sh shB; rw [hhd, h1, h2, List.drop_drop, h3]; rfl
                rw [e]
                exact ⟨rfl, _, _, by assumption, by walk_at "mine.v", by walk_at "mine.v", by walk_at "mine.v", by walk_at "mine.v", by walk_at "mine.v"⟩
            · walk_at "mine.go"
              refine r_iff rfl ?_
              walk_at "mine.go"
              have e : sh (x.drop spot) = sh0 (x.drop spot) := by
                unfold sh shB; rw [hhd, h1, h2]; rfl
              rw [e]
              exact ⟨rfl, _, _, by assumption, by walk_at "mine.v", by walk_at "mine.v", by walk_at "mine.v", by walk_at "mine.v", by walk_at "mine.v"⟩
          · walk_at "mine.go"
            refine r_iff rfl ?_
            walk_at "mine.go"
            have e : sh (x.drop spot) = sh0 (x.drop spot) := by
              unfold sh shB; rw [hhd, h1]; rfl
            rw [e]
            exact ⟨rfl, _, _, by assumption, by walk_at "mine.v", by walk_at "mine.v", by walk_at "mine.v", by walk_at "mine.v", by walk_at "mine.v"⟩
        · rintro s8 ⟨vl2, tz2, S8, w1, w2, w3, w4, w5⟩
          walk_at "mine.go"
          refine r_sl_ss (a := spot) (b := spot + sh (x.drop spot)) (by assumption) (by walk_at "mine.sz") rfl (by omega) ?_
          intro t9 s9 S9
          rw [Nat.add_sub_cancel_left]
          obtain ⟨tk, hk⟩ := hval _ _ hp2
          refine r_dget (by assumption) (hDf.mono (Le.trans hle hle7)) hk ?_
          intro s10 S10
          walk_at "mine.go"
          refine r_new (by assumption) (by walk_at "mine.sz") ?_
          intro bq g3 s11 hle3 hbq S11
          walk_at "mine.go"
          refine ⟨x.length - (spot + (pc (x.drop spot)).2), by omega, spot + (pc (x.drop spot)).2, fr ++ [((spot : Int), (pc (x.drop spot)).1)], mv ++ [.ref bq], _, g3, _, _, rfl, by assumption, Le.trans hle (Le.trans hle7 hle3), by walk_at "mine.v", by walk_at "mine.v", by walk_at "mine.v", (by rw [← hp1]; exact rfl), ?_, by omega, ?_, ?_⟩
          · rw [List.map_append]
            exact (hfr.mono (Le.trans hle7 hle3)).append (.one (.list hbq (.cons (.int _ _) (.cons (.int _ _) .nil))))
          · rw [List.length_append, List.length_singleton]; omega
          · rw [hmf, mf_step hlt']; simp
    · have hge' : spot = x.length := by
        have : ¬ spot < x.length := by simpa using hge
        omega
      subst hge'
      refine hK _ _ ?_
      obtain ⟨gH, hgH, hDH, SH⟩ := S5.freezeE
      have GH := G1.mono hgH
      walk_at "mine.go"
      refine r_slen (by assumption) (by walk_at "mine.sz") ?_
      intro t6 s6 S6
      walk_at "mine.go"
      refine r_new (by assumption) (by walk_at "mine.sz") ?_
      intro b1 g1 s7 hle1 hb1 S7
      walk_at "mine.go"
      refine r_new (by assumption) (by walk_at "mine.sz") ?_
      intro b2 g2 s8 hle2 hb2 S8
      refine r_ladd (by assumption) (hle2 _ _ (hle1 _ _ hDH)) hb2 (by walk_at "mine.sz") ?_
      intro b3 g3 s9 hle3 hb3 S9
      walk_at "mine.go"
      refine St.done (by assumption) (.list hb3 ?_)
      rw [hmf, List.drop_length, mf_nil, List.map_append]
      exact (hfr.mono (Le.trans hgH (Le.trans hle1 (Le.trans hle2 hle3)))).append (.one (.list (hle3 _ _ (hle2 _ _ hb1)) (.cons (.int _ _) (.cons (.int _ _) .nil))))
  · refine ⟨0, [], [], _, _, _, _, rfl, by assumption, Le.refl _, by walk_at "mine.v", by walk_at "mine.v", by walk_at "mine.v", by walk_at "mine.v", .nil, by omega, by simp, ?_⟩
    rw [List.nil_append, List.drop_zero]
end
end
section
open PySem PySem.W PySem.Calls PyProof PyProof.Rows
section
variable {prog : Program} {w : World} {A : Around} {E : Value → Shared → Prop} {s₀ s : Shared} {g₀ g : Gh} {env : Env} {vl : List (PySem.Str × Value)} {own : List (Addr × Obj)}
noncomputable def conD (keys : List (Option PySem.Expr)) (values : List PySem.Expr) : List (PySem.Str × Int) := (conK keys values).getD []
/-- a display of written texts and ints; all that is to be shown of it is computed by the kernel -/
theorem r_dictD {mg : PySem.Str → Option Value} {keys : List (Option PySem.Expr)} {values : List PySem.Expr} {pos : Pos} {Q : Value → Shared → Prop} (S : St s₀ g₀ g env (V vl) own s) (T : Top0 g mg)
    (hc : ((conK keys values).isSome && decide ((conD keys values).map (·.1)).Nodup && decide (0 < (conD keys values).length ∧ (conD keys values).length ≤ 15)) = true)
    (h : ∀ d o kvs s', (d == sysModules) = false → KI (conD keys values) kvs → o.IsDictOf (strKind prog w) kvs → St s₀ g₀ g env (V vl) ((d, o) :: own) s' → Q (.ref d) s') :
    wpAny (model prog w) A (eval (.Dict keys values pos) env) Q E s := by
  rw [Bool.and_eq_true, Bool.and_eq_true, decide_eq_true_eq, decide_eq_true_eq] at hc
  obtain ⟨⟨h1, h2⟩, h3, h4⟩ := hc
  obtain ⟨ps, hps⟩ := Option.isSome_iff_exists.mp h1
  have e : conD keys values = ps := by unfold conD; rw [hps]; rfl
  rw [e] at h h2 h3 h4
  exact r_dictC S T hps h2 h3 h4 h
end
section
variable {prog : Program} {w : World} {A : Around} {s : Shared} {g : Gh} {mg : PySem.Str → Option Value} {ad : Ads}
set_option maxHeartbeats 400000 in
theorem cut_spec {x : List Nat} {t : Tok} (hR : Room 10 A) (hg : Le g s.heap.get?) (G : Glb prog w g mg ad) (M : Nms mg ad) (hx : Alph x) (hsz : x.length ≤ 900) :
    wpAny (model prog w) A (call (.ref ad.cut) [.str (Tx x) t]) (Ret s g fun g' r => Rep g' r (encMarks (mf x 0))) Never s := by
  refine call_fnA (binds := [(PySem.Str.ofString "text", .str (Tx x) t)]) (hR.le (by omega)) hg G.top G.cut cut_ok (fun _ _ _ _ _ => BindsTo.of_eq (by rfl)) ?_ ?_
  · intro n x hx
    simp only [List.mem_singleton] at hx
    subst hx
    exact .inl rfl
  · intro cd L s' S R₀ hR₀
    refine execs_gen ?_
    intro R₁ hR₁
    walk_at "mine.go"
    have H := fun keys values pos Q => @r_dictD prog w (A.deeper (envC (nameOf 64) (scopeOf 64) L ad.cut cd)) Never _ _ _ _ _ _ _ mg keys values pos Q S G.top
    refine H _ _ _ _ ?_ ?_
    · decide +kernel
    intro d o1 kv1 s2 hd hk1 ho1 S2
    walk_at "mine.go"
    refine r_meth_update (by assumption) ho1 (r_loc (by assumption) (by rfl) (by rfl) ⟨rfl, rfl⟩) (by rfl) (by rfl) (by rfl) ?_
    rename_i Sd2 _ _
    have H := fun keys values pos Q => @r_dictD prog w (A.deeper (envC (nameOf 64) (scopeOf 64) L ad.cut cd)) Never _ _ _ _ _ _ _ mg keys values pos Q Sd2 G.top
    refine H _ _ _ _ ?_ ?_
    · decide +kernel
    intro d2 o2 kv2 s4 hd2 hk2 ho2 S4
    refine r_update (by assumption) hd2 ho1 ho2 (by rw [hk1.length, hk2.length, sizeLine_eq]; decide +kernel) (by rw [(hk1.append hk2).fst]; decide +kernel) ?_
    intro o3 s5 ho3 S5
    walk_at "mine.go"
    refine r_meth_update (by assumption) ho3 (r_loc (by assumption) (by rfl) (by rfl) ⟨rfl, rfl⟩) (by rfl) (by rfl) (by rfl) ?_
    have H := fun keys values pos Q => @r_dictD prog w (A.deeper (envC (nameOf 64) (scopeOf 64) L ad.cut cd)) Never _ _ _ _ _ _ _ mg keys values pos Q S5 G.top
    refine H _ _ _ _ ?_ ?_
    · decide +kernel
    intro d3 o4 kv3 s7 hd3 hk3 ho4 S7
    refine r_update (by assumption) hd3 ho3 ho4 (by rw [(hk1.append hk2).length, hk3.length, sizeLine_eq]; decide +kernel) (by rw [((hk1.append hk2).append hk3).fst]; decide +kernel) ?_
    intro o5 s8 ho5 S8
    obtain ⟨gF, hgF, hdF, SF⟩ := S8.freezeE
    obtain ⟨f, hDf, hval⟩ : ∃ f, DictG prog w gF d f ∧ ∀ l k, kt l = some k → ∃ t, f (Tx l) = some (.int k t) := by
      refine ⟨_, dictG_of hdF ho5, fun l k h => ((hk1.append hk2).append hk3).value ?_⟩
      refine kt_cases h (P := fun l k => (List.find? (fun (p : PySem.Str × Int) => p.1 = Tx l) _).map (fun (p : PySem.Str × Int) => p.2) = some k) ?_ ?_ <;> decide +kernel
    clear ho5 ho3 ho1 ho2 ho4 S8 hdF hk1 hk2 hk3
    have GF := G.mono hgF
    refine Cont.go (by assumption) ?_
    refine wpAny_mono (cut_rest hR.deeper.1 GF M hx hsz SF (by walk_at "mine.v") (by walk_at "mine.v") hDf hval) (fun f s h => hR₀ f s h) fun _ _ x => x
end
end
section
open PySem PySem.W PySem.Calls PyProof PyProof.Rows
theorem Reps.ints {g : Gh} : ∀ {vs : List Value} {ns : List Int}, Reps g vs (ns.map PyData.int) → IntsAre vs ns
  | _, [], .nil => .nil
  | _, n :: ns, .cons (.int _ t) r => .cons n t (Reps.ints r)
section
variable {prog : Program} {w : World} {A : Around} {E : Value → Shared → Prop} {s₀ s : Shared} {g₀ g : Gh} {env : Env} {vl : List (PySem.Str × Value)} {own : List (Addr × Obj)} {Q : Value → Shared → Prop}
theorem r_max {l : Addr} {vs : List Value} {n : Nat} {ns : List Int} (S : St s₀ g₀ g env (V vl) own s) (hh : A.handled = none) (hl : g l = some (lst vs n)) (hi : IntsAre vs ns) (hne : 0 < ns.length)
    (h : ∀ M t s', St s₀ g₀ g env (V vl) own s' → M ∈ ns → (∀ a, a ∈ ns → a ≤ M) → Q (.int M t) s') : wpAny (model prog w) A (call (.builtin "max") [.ref l]) Q E s := by
  obtain ⟨m, F, e⟩ := S.fr
  exact max_list_N hh F (news_all s.heap env.locals) (lst_isList (S.keep _ _ hl)) hi hne fun h' M t tk F' N' h1 h2 => h M t _ (S.ofFr e F' N' fun p hp => hp) h1 h2
theorem r_min2 {a b : Int} {t u : Tok} (S : St s₀ g₀ g env (V vl) own s) (hh : A.handled = none)
    (h : ∀ t s', St s₀ g₀ g env (V vl) own s' → Q (.int (if b < a then b else a) t) s') : wpAny (model prog w) A (call (.builtin "min") [.int a t, .int b u]) Q E s := by
  obtain ⟨m, F, e⟩ := S.fr
  exact min_two_N hh F (news_all s.heap env.locals) fun h' tk F' N' => h _ _ (S.ofFr e F' N' fun p hp => hp)
theorem r_nin {l : Addr} {vs : List Value} {n : Nat} {ns : List Int} {k : Int} {t : Tok} (S : St s₀ g₀ g env (V vl) own s) (hl : g l = some (lst vs n)) (hi : IntsAre vs ns)
    (h : Q (.bool (!ns.contains k)) s) : wpAny (model prog w) A (compareOp .NotIn (.int k t) (.ref l)) Q E s := by
  refine notin_list_ints (lst_isList (S.keep _ _ hl)) hi ?_
  have e : ns.any (· == k) = ns.contains k := by
    rw [List.contains_eq_any_beq]
    congr 1
    funext a
    exact BEq.comm
  rw [e]; exact h
end
theorem take_filter_succ {α : Type} {src : List α} {q : α → Bool} {i : Nat} {p : α} (h : src[i]? = some p) : (src.take (i + 1)).filter q = (src.take i).filter q ++ (if q p = true then [p] else []) := by
  rw [List.take_add_one, h, Option.toList_some, List.filter_append]
  congr 1
  by_cases hq : q p = true
  · rw [if_pos hq, List.filter_cons_of_pos hq]; rfl
  · rw [if_neg hq, List.filter_cons_of_neg hq]; rfl
theorem max_start {t : List Nat} {i : Nat} {M : Int} (h1 : 1 ≤ cntM t i) (hM : M ∈ ((mf t 0).filter fun x => x.1 ≤ (i : Int)).map (·.1)) (hmax : ∀ a ∈ ((mf t 0).filter fun x => x.1 ≤ (i : Int)).map (·.1), a ≤ M) :
    ((mf t 0).getD (cntM t i - 1) (0, 0)).1 = M := by
  have hs := mf_sorted t 0
  have e := take_filter (c := (i : Int)) hs
  have hc : cntM t i ≤ (mf t 0).length := List.length_filter_le _ _
  obtain ⟨p, hp⟩ : ∃ p, (mf t 0)[cntM t i - 1]? = some p := ⟨_, List.getElem?_eq_getElem (by omega)⟩
  rw [List.getD_eq_getElem?_getD, hp, Option.getD_some]
  rw [← e] at hM hmax
  apply Int.le_antisymm
  · apply hmax
    refine List.mem_map.mpr ⟨p, List.mem_of_getElem? (i := cntM t i - 1) ?_, rfl⟩
    rw [List.getElem?_take, if_pos (by unfold cntM at *; omega)]; exact hp
  · obtain ⟨q, hq, rfl⟩ := List.mem_map.mp hM
    obtain ⟨j, hj⟩ := List.getElem?_of_mem hq
    rw [List.getElem?_take] at hj
    split at hj
    · rename_i hlt
      exact sorted_at hs hj hp (by unfold cntM; omega)
    · cases hj
end
section
open PySem PySem.W PySem.Calls PyProof PyProof.Rows
theorem told_ok : ScopeOk (scopeOf 65) := ⟨rfl, rfl, rfl, by decide, by decide⟩
section
variable {prog : Program} {w : World} {A : Around} {s : Shared} {g : Gh} {mg : PySem.Str → Option Value} {ad : Ads}
set_option maxHeartbeats 1000000 in
theorem told_spec {ev : Value} {es : List Edit} (hR : Room 20 A) (hg : Le g s.heap.get?) (G : Glb prog w g mg ad) (M : Nms mg ad) (hv : Rep g ev (.list (es.map encEdit))) (hok : EdOk es) :
    wpAny (model prog w) A (call (.ref ad.told) [ev]) (Ret s g fun g' r => Rep g' r (spec es)) Never s := by
  refine call_fnA (binds := [(PySem.Str.ofString "edits", ev)]) (hR.le (by omega)) hg G.top G.told told_ok (fun _ _ _ _ _ => BindsTo.of_eq (by rfl)) ?_ ?_
  · intro n x hx
    simp only [List.mem_singleton] at hx
    subst hx
    exact .inl rfl
  · intro cd L s' S R₀ hR₀
    obtain ⟨le, ve, ne, rfl, hle, hre⟩ := hv.list_inv
    have hvel : ve.length = es.length := by rw [hre.length, List.length_map]
    have hcells : (envC (nameOf 65) (scopeOf 65) L ad.told cd).cells = [(PySem.Str.ofString "spot", L + 5), (PySem.Str.ofString "old", L + 4), (PySem.Str.ofString "put", L + 3), (PySem.Str.ofString "gone", L + 2), (PySem.Str.ofString "place", L + 1)] := rfl
    refine execs_gen fun R₁ hR₁ => ?_
    walk_at "mine.go"
    refine r_new (by assumption) (by walk_at "mine.sz") ?_
    intro b1 g1 s1 hl1 hb1 S1
    walk_at "mine.go"
    refine r_new (by assumption) (by walk_at "mine.sz") ?_
    intro b2 g2 s2 hl2 hb2 S2
    walk_at "mine.go"
    refine r_newO (by assumption) (by walk_at "mine.sz") ?_
    intro D s3 S3
    walk_at "mine.go"
    have hle2 := hl2 _ _ (hl1 _ _ hle)
    refine r_for hR.deeper.1 (by assumption) hle2 (fun i vl' g' own' => ∃ av n mv tt, own' = [(D, lst av n)] ∧ V vl' (PySem.Str.ofString "text") = some (.str (Tx (endT (es.take i))) tt) ∧ V vl' (PySem.Str.ofString "marks") = some mv ∧ V vl' (PySem.Str.ofString "answers") = some (.ref D) ∧
      Reps g' av (ansL es i) ∧ Rep g' mv (encMarks (mf (endT (es.take i)) 0))) ?_ ?_ ?_ ?_
    · refine ⟨[], 0, _, _, rfl, rfl, rfl, rfl, .nil, ?_⟩
      have e : mf (endT (es.take 0)) 0 = [(0, 0)] := mf_nil 0
      rw [e]
      exact .list hb2 (.cons (.list (hl2 _ _ hb1) (.cons (.int _ _) (.cons (.int _ _) .nil))) .nil)
    · rintro i v vl' g' own' it s4 R hK hvi ⟨av, n, mv, tt, rfl, v1, v2, v3, hav, hmv⟩ hle' S4
      have hup : Le g g' := Le.trans hl1 (Le.trans hl2 hle')
      have G' := G.mono hup
      obtain ⟨d, hd1, hd2⟩ := hre.getV hvi
      rw [List.getElem?_map] at hd1
      obtain ⟨e, he, rfl⟩ := Option.map_eq_some_iff.mp hd1
      have hil : i < es.length := by
        by_cases h : i < es.length
        · exact h
        · rw [List.getElem?_eq_none (by omega)] at he; cases he
      obtain ⟨ok1, ok2, ok3⟩ := hok.2 i e he
      obtain ⟨al, tl⟩ := endT_ok hok i (by omega)
      have h20 := hok.1
      have hapl := ap_len (put := e.2.2) ok1
      have havl : av.length ≤ 1000 := by
        have := hav.length
        unfold ansL at this
        rw [List.length_map, List.length_range] at this
        omega
      obtain ⟨lm, vm, nm, rfl, hlm, hrm⟩ := hmv.list_inv
      have hvml : vm.length = (mf (endT (es.take i)) 0).length := by rw [hrm.length, List.length_map]
      have hml := mf_len (endT (es.take i)) 0
      refine r_unp3i S4 hR.deeper.1 (Rep.mono hup hd2) ?_
      intro tk1 tk2 tk3 s5 S5
      walk_at "mine.go"
      refine r_sl_ns (b := e.1) (by assumption) (by walk_at "mine.sz") rfl ?_
      intro t6 s6 S6
      walk_at "mine.go"
      refine r_sadd (by assumption) (by walk_at "mine.sz") ?_
      intro t7 s7 S7
      walk_at "mine.go"
      refine r_sl_sn (a := e.1 + e.2.1) (by assumption) (by walk_at "mine.sz") (by omega) ?_
      intro t8 s8 S8
      refine r_sadd (by assumption) (by walk_at "mine.sz") ?_
      intro t9 s9 S9
      walk_at "mine.go"
      -- old
      refine r_comp (cl := []) (by rfl) (by rfl) (by decide) ?_
      walk_at "mine.go"
      refine r_go0 (cvl := []) (by assumption) hR.deeper.1 hlm (by omega) ?_ (by decide) rfl (fun p hp => nomatch hp) (fun p hp => nomatch hp) List.nodup_nil (fun x _ => rfl)
        (fun j ys g2 => Reps g2 ys ((((mf (endT (es.take i)) 0).take j).map (·.1)).map PyData.int)) (fun _ => True) (by simpa using Reps.nil) trivial ?_ ?_
      · refine .inr ⟨⟨_, _, _, rfl⟩, hrm.refs fun d hd => ?_⟩
        obtain ⟨p, _, rfl⟩ := List.mem_map.mp hd
        exact ⟨_, rfl⟩
      · intro C j v ys g2 cvl pI pD s7 hv7 hJ7 hle7 _ S7
        obtain ⟨d, hd1, hd2⟩ := hrm.getV hv7
        rw [List.getElem?_map] at hd1
        obtain ⟨p, hp1, rfl⟩ := Option.map_eq_some_iff.mp hd1
        refine r_unp2i S7 hR.deeper.1 (Rep.mono hle7 hd2) ?_
        intro tk1 tk2 s8 S8
        walk_at "mine.go"
        refine ⟨g2, _, ?_, Le.refl _, trivial, by assumption⟩
        rw [List.take_add_one, hp1, Option.toList_some, List.map_append, List.map_append]
        exact hJ7.append (.one (.int _ _))
      · intro yo DO no g2 g3 s10 hJo hle3 hle3' hDO S10
        rw [List.take_of_length_le (by omega)] at hJo
        have G3 := G'.mono hle3
        have hJo := hJo.mono hle3'
        walk_at "mine.go"
        refine r_cwA G.cut ?_
        walk_at "mine.go"
        refine ⟨by walk_at "mine.le", ?_⟩
        refine r_call (by assumption) (cut_spec (x := ap (endT (es.take i)) e.1 e.2.1 e.2.2) (Room.le hR.deeper (by omega)) (by walk_at "mine.le") G3 M (ap_alph al ok2) (by omega)) ?_
        intro vc g4 s11 hle4 S11 hrc
        have G4 := G3.mono hle4
        have hJo := hJo.mono hle4
        have hDO := hle4 _ _ hDO
        obtain ⟨ln, vn, nn, rfl, hln, hrn⟩ := hrc.list_inv
        have hnl := mf_len (ap (endT (es.take i)) e.1 e.2.1 e.2.2) 0
        have hvnl : vn.length = (mf (ap (endT (es.take i)) e.1 e.2.1 e.2.2) 0).length := by rw [hrn.length, List.length_map]
        have hyol : yo.length = (mf (endT (es.take i)) 0).length := by rw [hJo.length, List.length_map, List.length_map]
        walk_at "mine.go"
        -- ahead
        refine r_comp (cl := [(PySem.Str.ofString "place", L + 1)]) (by rfl) (by rfl) (by decide) ?_
        walk_at "mine.go"
        refine r_go1 (cvl := [(PySem.Str.ofString "place", .int e.1 tk1)]) (by assumption) hR.deeper.1 hDO (by omega) (.inl fun _ _ => rfl) (by decide) rfl ?_ ?_ (by simp) ?_
          (fun j ys g2 => Reps g2 ys (((((mf (endT (es.take i)) 0).map (·.1)).take j).filter fun q => q ≤ (e.1 : Int) - 3).map PyData.int)) (fun cvl => V cvl (PySem.Str.ofString "place") = some (.int e.1 tk1)) (by simpa using Reps.nil) rfl ?_ ?_
        · intro p hp'
          rw [List.mem_singleton] at hp'; subst hp'
          exact ⟨by rw [hcells]; simp, rfl⟩
        · intro p hp'
          rw [List.mem_singleton] at hp'; subst hp'
          rfl
        · refine loc_none fun p hp' => ?_
          rw [List.mem_singleton] at hp'; subst hp'
          exact fun h => by cases (show some NameKind.cell = some NameKind.local from h)
        · intro C j v ys g2 cvl pI pD s7 hv7 hJ7 hle7 hK7 S7
          obtain ⟨d, hd1, hd2⟩ := hJo.getV hv7
          rw [List.getElem?_map] at hd1
          obtain ⟨q, hq1, rfl⟩ := Option.map_eq_some_iff.mp hd1
          obtain ⟨tk1, rfl⟩ := hd2.int_inv
          walk_at "mine.go"
          refine r_if (fun h => ?_) fun h => ?_
          · walk_at "mine.go"
            refine ⟨g2, _, ?_, Le.refl _, ?_, by assumption⟩
            · rw [take_filter_succ hq1, if_pos h, List.map_append]
              exact hJ7.append (.one (.int _ _))
            · walk_at "mine.v"
          · refine ⟨g2, _, ?_, Le.refl _, ?_, by assumption⟩
            · rw [take_filter_succ hq1, if_neg (by rw [h]; decide), List.append_nil]
              exact hJ7
            · walk_at "mine.v"
        · intro ya DA na g5 g6 s12 hJa hle6 hle6' hDA S12
          rw [List.take_of_length_le (by rw [List.length_map]; omega)] at hJa
          have hal : ya.length = ahead (mf (endT (es.take i)) 0) e.1 := by
            rw [hJa.length, List.length_map, List.filter_map, List.length_map]; rfl
          have G6 := G4.mono hle6
          have hJo := hJo.mono hle6
          have hDO := hle6 _ _ hDO
          have hln := hle6 _ _ hln
          have hrn := hrn.mono hle6
          have hala := ahead_le (mf (endT (es.take i)) 0) e.1
          walk_at "mine.go"
          refine r_len (by assumption) hDA (by walk_at "mine.sz") ?_
          intro ta s13 S13
          rw [hal]
          walk_at "mine.go"
          -- upto
          refine r_comp (cl := [(PySem.Str.ofString "put", L + 3), (PySem.Str.ofString "place", L + 1), (PySem.Str.ofString "old", L + 4), (PySem.Str.ofString "gone", L + 2)]) (by rfl) (by rfl) (by decide) ?_
          walk_at "mine.go"
          refine r_go1 (cvl := [(PySem.Str.ofString "put", .str (Tx e.2.2) tk3), (PySem.Str.ofString "place", .int e.1 tk1), (PySem.Str.ofString "old", .ref DO), (PySem.Str.ofString "gone", .int e.2.1 tk2)]) (by assumption) hR.deeper.1 hln (by omega) ?_ (by decide) rfl ?_ ?_ (by simp; decide) ?_
            (fun j ys g2 => Reps g2 ys ((((mf (ap (endT (es.take i)) e.1 e.2.1 e.2.2) 0).take j).filter fun p => cnd (mf (endT (es.take i)) 0) e.1 e.2.1 e.2.2.length p.1).map fun p => PyData.int p.1))
            (fun cvl => V cvl (PySem.Str.ofString "put") = some (.str (Tx e.2.2) tk3) ∧ V cvl (PySem.Str.ofString "place") = some (.int e.1 tk1) ∧ V cvl (PySem.Str.ofString "old") = some (.ref DO) ∧ V cvl (PySem.Str.ofString "gone") = some (.int e.2.1 tk2)) (by simpa using Reps.nil) ⟨rfl, rfl, rfl, rfl⟩ ?_ ?_
          · refine .inr ⟨⟨_, _, _, rfl⟩, hrn.refs fun d hd => ?_⟩
            obtain ⟨p, _, rfl⟩ := List.mem_map.mp hd
            exact ⟨_, rfl⟩
          · intro p hp'
            simp only [List.mem_cons, List.not_mem_nil, or_false] at hp'
            rcases hp' with rfl | rfl | rfl | rfl <;> exact ⟨by rw [hcells]; simp, rfl⟩
          · intro p hp'
            simp only [List.mem_cons, List.not_mem_nil, or_false] at hp'
            rcases hp' with rfl | rfl | rfl | rfl <;> rfl
          · refine loc_none fun p hp' => ?_
            simp only [List.mem_cons, List.not_mem_nil, or_false] at hp'
            rcases hp' with rfl | rfl | rfl | rfl <;> exact fun h => by cases (show some NameKind.cell = some NameKind.local from h)
          · rintro C j v ys g2 cvl pI pD s7 hv7 hJ7 hle7 ⟨k1, k2, k3, k4⟩ S7
            have G7 := G6.mono hle7
            obtain ⟨d, hd1, hd2⟩ := hrn.getV hv7
            rw [List.getElem?_map] at hd1
            obtain ⟨p, hp1, rfl⟩ := Option.map_eq_some_iff.mp hd1
            refine r_unp2i S7 hR.deeper.1 (Rep.mono hle7 hd2) ?_
            intro tq1 tq2 s8 S8
            walk_at "mine.go"
            refine r_slen (by assumption) (by walk_at "mine.sz") ?_
            intro t9 s9 S9
            walk_at "mine.go"
            refine r_if (fun h => ?_) fun h => ?_
            · refine r_ift rfl ?_
              walk_at "mine.go"
              refine ⟨g2, _, ?_, Le.refl _, ?_, by assumption⟩
              · rw [take_filter_succ hp1, if_pos (by unfold cnd; rw [h]; rfl), List.map_append]
                exact hJ7.append (.one (.int _ _))
              · exact ⟨by walk_at "mine.v", by walk_at "mine.v", by walk_at "mine.v", by walk_at "mine.v"⟩
            · walk_at "mine.go"
              refine r_slen (by assumption) (by walk_at "mine.sz") ?_
              intro t10 s10 S10
              walk_at "mine.go"
              refine r_nin (by assumption) (hle7 _ _ hDO) (hJo.mono hle7).ints ?_
              walk_at "mine.go"
              refine r_if (fun h2 => ?_) fun h2 => ?_
              · refine r_ift rfl ?_
                walk_at "mine.go"
                refine ⟨g2, _, ?_, Le.refl _, ?_, by assumption⟩
                · rw [take_filter_succ hp1, if_pos (by unfold cnd; rw [h2]; simp), List.map_append]
                  exact hJ7.append (.one (.int _ _))
                · exact ⟨by walk_at "mine.v", by walk_at "mine.v", by walk_at "mine.v", by walk_at "mine.v"⟩
              · walk_at "mine.go"
                refine r_iff rfl ?_
                refine ⟨g2, _, ?_, Le.refl _, ?_, by assumption⟩
                · rw [take_filter_succ hp1, if_neg (by unfold cnd; rw [h, h2]; decide), List.append_nil]
                  exact hJ7
                · exact ⟨by walk_at "mine.v", by walk_at "mine.v", by walk_at "mine.v", by walk_at "mine.v"⟩
          · intro yu DU nu g7 g8 s14 hJu hle8 hle8' hDU S14
            rw [List.take_of_length_le (l := mf (ap (endT (es.take i)) e.1 e.2.1 e.2.2) 0) (by omega)] at hJu
            have hul : yu.length = upto (mf (endT (es.take i)) 0) e.1 e.2.1 e.2.2.length (mf (ap (endT (es.take i)) e.1 e.2.1 e.2.2) 0) := by
              rw [hJu.length, List.length_map]; rfl
            have hul2 : upto (mf (endT (es.take i)) 0) e.1 e.2.1 e.2.2.length (mf (ap (endT (es.take i)) e.1 e.2.1 e.2.2) 0) ≤ (mf (ap (endT (es.take i)) e.1 e.2.1 e.2.2) 0).length := List.length_filter_le _ _
            have G8 := G6.mono hle8
            have hln := hle8 _ _ hln
            have hrn := hrn.mono hle8
            walk_at "mine.go"
            refine r_len (by assumption) hDU (by walk_at "mine.sz") ?_
            intro tu s15 S15
            rw [hul]
            walk_at "mine.go"
            refine r_new (by assumption) (by walk_at "mine.sz") ?_
            intro b4 g9 s16 hle9 hb4 S16
            walk_at "mine.go"
            have upx : Le g' g9 := Le.trans hle3 (Le.trans hle4 (Le.trans hle6 (Le.trans hle8 hle9)))
            have hm1 : Rep g9 (.ref ln) (encMarks (mf (ap (endT (es.take i)) e.1 e.2.1 e.2.2) 0)) := .list (hle9 _ _ hln) (hrn.mono hle9)
            refine ⟨_, g9, [(D, lst (av ++ [.ref b4]) _)], by assumption, upx, av ++ [.ref b4], _, _, t9, rfl, ?_, by walk_at "mine.v", by walk_at "mine.v", ?_, ?_⟩
            · rw [endT_succ he]; exact rfl
            · rw [ansL_succ he]
              refine (hav.mono upx).append (.one (.list hb4 (.cons hm1 (.cons (.int _ _) .nil))))
            · rw [endT_succ he]; exact hm1
    · rintro vl' g' own' s4 ⟨av, n, mv, tt, rfl, v1, v2, v3, hav, hmv⟩ hle' S4
      rw [hvel] at v1 hav hmv
      rw [List.take_length] at v1 hmv
      obtain ⟨al, tl⟩ := endT_ok hok es.length (Nat.le_refl _)
      rw [List.take_length] at al tl
      have h20 := hok.1
      obtain ⟨gF, hgF, hDF, SF⟩ := S4.freezeE
      have hup : Le g gF := Le.trans hl1 (Le.trans hl2 (Le.trans hle' hgF))
      have GF := G.mono hup
      have hmv := hmv.mono hgF
      have hav := hav.mono hgF
      walk_at "mine.go"
      refine r_newO (by assumption) (by walk_at "mine.sz") ?_
      intro D2 s5 S5
      walk_at "mine.go"
      refine r_slen (by assumption) (by walk_at "mine.sz") ?_
      intro t6 s6 S6
      walk_at "mine.go"
      refine r_range (n := (endT es).length + 1) (by assumption) (by omega) ?_
      intro ra gR s7 ta tb tc hleR hra S7
      have GR := GF.mono hleR
      obtain ⟨lm, vm, nm, rfl, hlm, hrm⟩ := hmv.list_inv
      have hvml : vm.length = (mf (endT es) 0).length := by rw [hrm.length, List.length_map]
      have hml := mf_len (endT es) 0
      refine r_forR hR.deeper.1 (by assumption) hra (by omega) (fun i vl' g' own' => ∃ hw n, own' = [(D2, lst hw n)] ∧ V vl' (PySem.Str.ofString "text") = some (.str (Tx (endT es)) tt) ∧ V vl' (PySem.Str.ofString "marks") = some (.ref lm) ∧ V vl' (PySem.Str.ofString "answers") = some (.ref D) ∧ V vl' (PySem.Str.ofString "holders") = some (.ref D2) ∧
        Reps g' hw (holdL (endT es) i)) ?_ ?_ ?_ (fun _ _ => rfl)
      · exact ⟨[], 0, rfl, by walk_at "mine.v", by walk_at "mine.v", by walk_at "mine.v", by walk_at "mine.v", .nil⟩
      · rintro i ti vl2 g2' own2 it s8 R hK hi ⟨hw, n8, rfl, w0, w1, w2, w3, hhw⟩ hle8 S8
        have G8 := GR.mono hle8
        have up8 : Le gF g2' := Le.trans hleR hle8
        have hwl : hw.length ≤ 1000 := by
          have := hhw.length
          unfold holdL at this
          rw [List.length_map, List.length_range] at this
          omega
        have hlm8 := up8 _ _ hlm
        have hrm8 := hrm.mono up8
        walk_at "mine.go"
        refine r_comp (cl := [(PySem.Str.ofString "spot", L + 5)]) (by rfl) (by rfl) (by decide) ?_
        walk_at "mine.go"
        refine r_go1 (cvl := [(PySem.Str.ofString "spot", .int (i : Nat) ti)]) (by assumption) hR.deeper.1 hlm8 (by omega) ?_ (by decide) rfl ?_ ?_ (by simp) ?_
          (fun j ys g2 => Reps g2 ys (((((mf (endT es) 0).take j).filter fun x => x.1 ≤ (i : Int)).map (·.1)).map PyData.int)) (fun cvl => V cvl (PySem.Str.ofString "spot") = some (.int (i : Nat) ti)) (by simpa using Reps.nil) rfl ?_ ?_
        · refine .inr ⟨⟨_, _, _, rfl⟩, hrm8.refs fun d hd => ?_⟩
          obtain ⟨p, _, rfl⟩ := List.mem_map.mp hd
          exact ⟨_, rfl⟩
        · intro p hp'
          rw [List.mem_singleton] at hp'; subst hp'
          exact ⟨by rw [hcells]; simp, rfl⟩
        · intro p hp'
          rw [List.mem_singleton] at hp'; subst hp'
          rfl
        · refine loc_none fun p hp' => ?_
          rw [List.mem_singleton] at hp'; subst hp'
          exact fun h => by cases (show some NameKind.cell = some NameKind.local from h)
        · intro C j v ys g2 cvl pI pD s9 hv9 hJ9 hle9 hK9 S9
          obtain ⟨d, hd1, hd2⟩ := hrm8.getV hv9
          rw [List.getElem?_map] at hd1
          obtain ⟨p, hp1, rfl⟩ := Option.map_eq_some_iff.mp hd1
          refine r_unp2i S9 hR.deeper.1 (Rep.mono hle9 hd2) ?_
          intro tq1 tq2 s10 S10
          walk_at "mine.go"
          refine r_if (fun h => ?_) fun h => ?_
          · walk_at "mine.go"
            refine ⟨g2, _, ?_, Le.refl _, ?_, by assumption⟩
            · rw [take_filter_succ hp1, if_pos h, List.map_append, List.map_append]
              exact hJ9.append (.one (.int _ _))
            · walk_at "mine.v"
          · refine ⟨g2, _, ?_, Le.refl _, ?_, by assumption⟩
            · rw [take_filter_succ hp1, if_neg (by rw [h]; decide), List.append_nil]
              exact hJ9
            · walk_at "mine.v"
        · intro ya DA na g5 g6 s12 hJa hle6 hle6' hDA S12
          rw [List.take_of_length_le (l := mf (endT es) 0) (by omega)] at hJa
          have G6 := G8.mono hle6
          obtain ⟨hc1, _⟩ := mf_holds (endT es) 0 al i (Nat.zero_le _) (by omega)
          walk_at "mine.go"
          refine r_max (by assumption) hR.deeper.1 hDA (hJa.mono hle6').ints (by rw [List.length_map]; omega) ?_
          intro M tM s13 S13 hM1 hM2
          have hMe := max_start (t := endT es) (i := i) hc1 hM1 hM2
          walk_at "mine.go"
          refine r_sl_ss (a := i) (b := i + 1) (by assumption) (by walk_at "mine.sz") rfl (by omega) ?_
          intro t14 s14 S14
          rw [Nat.add_sub_cancel_left]
          walk_at "mine.go"
          refine r_slen (by assumption) (by walk_at "mine.sz") ?_
          intro t15 s15 S15
          walk_at "mine.go"
          refine r_sneL (y := [97]) (by decide +kernel) ?_
          walk_at "mine.go"
          refine r_seqL (y := [97]) (by decide +kernel) ?_
          walk_at "mine.go"
          refine r_new (by assumption) (by walk_at "mine.sz") ?_
          intro b4 g9 s16 hle9 hb4 S16
          walk_at "mine.go"
          have upx : Le g2' g9 := Le.trans hle6 hle9
          refine ⟨_, g9, [(D2, lst (hw ++ [.ref b4]) _)], by assumption, upx, hw ++ [.ref b4], _, rfl, by walk_at "mine.v", by walk_at "mine.v", by walk_at "mine.v", by walk_at "mine.v", ?_⟩
          rw [holdL_succ]
          refine (hhw.mono upx).append (.one ?_)
          unfold hold
          have e2 : decide (i = (endT es).length) = ((i : Int) == ((endT es).length : Int)) := by
            by_cases h : i = (endT es).length
            · rw [decide_eq_true h, h]; simp
            · rw [decide_eq_false h]
              have h' : ¬ (i : Int) = ((endT es).length : Int) := by omega
              simpa using h'
          have e3 : decide ((endT es)[i]? = some 97) = decide (((endT es).drop i).take 1 = [97]) := by
            refine decide_eq_decide.mpr ?_
            rw [← List.head?_drop]
            cases (endT es).drop i with
            | nil => simp
            | cons a r => simp
          rw [hMe, e2, e3]
          exact .list hb4 (.cons (.int _ _) (.cons (.bool _) (.cons (.bool _) (.cons (.bool _) .nil))))
      · rintro vl2 g2' own2 s8 ⟨hw, n8, rfl, w0, w1, w2, w3, hhw⟩ hle8 S8
        obtain ⟨gH, hgH, hDH, SH⟩ := S8.freezeE
        walk_at "mine.go"
        refine r_new (by assumption) (by walk_at "mine.sz") ?_
        intro b4 g4 s14 hle4 hb4 S14
        walk_at "mine.go"
        refine St.done (by assumption) ?_
        have up : Le gF g4 := Le.trans hleR (Le.trans hle8 (Le.trans hgH hle4))
        exact .list hb4 (.cons (.list (up _ _ hDF) (hav.mono up)) (.cons (.list (hle4 _ _ hDH) (hhw.mono (Le.trans hgH hle4))) .nil))
    · refine .inr ⟨⟨_, _, _, rfl⟩, hre.refs fun d hd => ?_⟩
      obtain ⟨p, _, rfl⟩ := List.mem_map.mp hd
      exact ⟨_, rfl⟩
end
end
section
open PySem PySem.W PySem.Calls PyProof PyProof.Rows
theorem endT_snoc (es : List Edit) (e : Edit) : endT (es ++ [e]) = ap (endT es) e.1 e.2.1 e.2.2 := by
  unfold endT; rw [List.foldl_append]; rfl
theorem EdOk.snoc {es : List Edit} {e : Edit} (h : EdOk es) (hl : es.length < 20) (h1 : e.1 + e.2.1 ≤ (endT es).length) (h2 : Alph e.2.2) (h3 : e.2.2.length ≤ 9) : EdOk (es ++ [e]) := by
  refine ⟨by rw [List.length_append, List.length_singleton]; omega, fun i d hd => ?_⟩
  rcases Nat.lt_or_ge i es.length with hi | hi
  · rw [List.getElem?_append_left hi] at hd
    rw [List.take_append_of_le_length (by omega)]
    exact h.2 i d hd
  · have hi' : i = es.length := by
      have hlt : i < (es ++ [e]).length := by
        by_cases h : i < (es ++ [e]).length
        · exact h
        · rw [List.getElem?_eq_none (by omega)] at hd; cases hd
      rw [List.length_append, List.length_singleton] at hlt; omega
    subst hi'
    rw [List.getElem?_append_right (Nat.le_refl _), Nat.sub_self] at hd
    cases hd
    rw [List.take_left]
    exact ⟨h1, h2, h3⟩
theorem strs_get : ∀ {vs : List Value} {ys : List PySem.Str}, StrsAre vs ys → ∀ {i : Nat} {y : PySem.Str}, ys[i]? = some y → ∃ t, vs[i]? = some (.str y t)
  | _, _, .nil, i, y, h => by simp at h
  | _, _, .cons y' t r, 0, y, h => by simp at h; subst h; exact ⟨t, rfl⟩
  | _, _, .cons y' t r, i + 1, y, h => by simp at h; simpa using strs_get r h
theorem Reps.strs {g : Gh} : ∀ {vs : List Value} {us : List (List Nat)}, Reps g vs (us.map fun u => PyData.str (Tx u)) → StrsAre vs (us.map Tx)
  | _, [], .nil => .nil
  | _, u :: us, .cons (.str _ t) r => .cons _ t (Reps.strs r)
theorem glued_Tx_aux : ∀ (us : List (List Nat)) (acc : List Nat), (us.map Tx).foldl (fun (acc : Array Nat) (p : PySem.Str) => acc ++ (PySem.Str.ofString "").cps ++ p.cps) acc.toArray = (acc ++ us.flatten).toArray
  | [], acc => by simp
  | u :: us, acc => by
    rw [List.map_cons, List.foldl_cons]
    have e : acc.toArray ++ (PySem.Str.ofString "").cps ++ (Tx u).cps = (acc ++ u).toArray := by
      have : (PySem.Str.ofString "").cps = #[] := by decide +kernel
      rw [this]; simp [Tx]
    rw [e, glued_Tx_aux us (acc ++ u)]
    simp
theorem join_Tx (us : List (List Nat)) : Txt.join (PySem.Str.ofString "") (us.map Tx) = Tx us.flatten := by
  unfold Txt.join Builtin.Str.glued
  cases us with
  | nil => decide +kernel
  | cons u us =>
    have := glued_Tx_aux us u
    rw [List.map_cons]
    show PySem.Str.mk ((us.map Tx).foldl (fun (acc : Array Nat) (p : PySem.Str) => acc ++ (PySem.Str.ofString "").cps ++ p.cps) u.toArray) = _
    rw [this]; simp [Tx]
section
variable {prog : Program} {w : World} {A : Around} {E : Value → Shared → Prop} {s₀ s : Shared} {g₀ g : Gh} {env : Env} {vl : List (PySem.Str × Value)} {own : List (Addr × Obj)} {Q : Value → Shared → Prop}
theorem r_joinC {x : PySem.Str} {k : Nat} {px apos pos : Pos} {ex : PySem.Expr} (S : St s₀ g₀ g env (V vl) own s)
    (hbase : attributeBase (.Constant (.str x) k px) "join" env (eval (.Constant (.str x) k px) env) = eval (.Constant (.str x) k px) env) (hline : (apos.endLine == pos.line) = true)
    (htrees : backTo pos (starEach [ex] env) = [(false, eval ex env)])
    (h : ∀ t s', St s₀ g₀ g env (V vl) own s' → wpAny (model prog w) A (eval ex env) (fun y s₂ => wpAny (model prog w) A (call (.builtin "str.join") [.str x t, y]) Q E s₂) E s') :
    wpAny (model prog w) A (eval (.Call (.Attribute (.Constant (.str x) k px) "join" apos) [ex] [] pos) env) Q E s := by
  refine wpAny_Call_method1_late hbase hline htrees (r_str S fun t s' S' => ?_)
  refine ⟨"str", "str.join", PySem.F.plainAttrs_str, PySem.F.slot_str_join, PySem.F.type_str_join, typeIs_str _ _ _, (fun _ e => nomatch e), ?_⟩
  exact callWith_builtin rfl (evalArgs_plain (spliced_cons (wpAny_mono (h t s' S') (fun y s₂ h₂ => spliced_nil h₂) fun _ _ e => e)))
theorem r_joinL {l : Addr} {vs : List Value} {n : Nat} {us : List (List Nat)} {t : Tok} (S : St s₀ g₀ g env (V vl) own s) (hl : g l = some (lst vs n)) (hs : StrsAre vs (us.map Tx)) (hn : us.length ≤ 10) (hw : ∀ u ∈ us, u.length ≤ 1)
    (h : ∀ t s', St s₀ g₀ g env (V vl) own s' → Q (.str (Tx us.flatten) t) s') : wpAny (model prog w) A (call (.builtin "str.join") [.str (PySem.Str.ofString "") t, .ref l]) Q E s := by
  refine join_listW (lst_isList (S.keep _ _ hl)) hs (by decide +kernel) ?_ fun t' k => ?_
  · have : ∀ us : List (List Nat), (∀ u ∈ us, u.length ≤ 1) → ((us.map Tx).map (·.length)).sum ≤ us.length := by
      intro us
      induction us with
      | nil => intro _; simp
      | cons u r ih =>
        intro hw
        have h1 := ih fun u hu => hw u (List.mem_cons_of_mem _ hu)
        have h2 := hw u List.mem_cons_self
        rw [List.map_cons, List.map_cons, List.sum_cons, List.length_cons, Tx_length]
        omega
    have := this us hw
    rw [List.length_map]
    omega
  · rw [join_Tx]; exact h _ _ (S.toks _)
theorem r_fdiv {a b : Int} {t u : Tok} (S : St s₀ g₀ g env (V vl) own s) (h1 : 0 < b) (h2 : b < 1000) (h : ∀ t s', St s₀ g₀ g env (V vl) own s' → Q (.int (a.fdiv b) t) s') :
    wpAny (model prog w) A (binaryOp .FloorDiv (.int a t) (.int b u)) Q E s :=
  PyProof.Rows.floordiv_int (by omega) (h _ _ (S.toks _)) (Or.inl (PyProof.noPylong_small (by omega)))
end
noncomputable def sg : List (List Nat) := [[], [61], [42], [46], [45], [62], [47], [60], [97]]
theorem sg_ok : ∀ u ∈ sg, Alph u ∧ u.length ≤ 1 := by
  intro u hu
  unfold sg at hu
  simp only [List.mem_cons, List.not_mem_nil, or_false] at hu
  rcases hu with rfl | rfl | rfl | rfl | rfl | rfl | rfl | rfl | rfl <;> refine ⟨fun c hc => ?_, by decide⟩ <;> simp at hc <;> subst hc <;> decide
theorem flat_ok : ∀ {us : List (List Nat)}, (∀ u ∈ us, Alph u ∧ u.length ≤ 1) → Alph us.flatten ∧ us.flatten.length ≤ us.length
  | [], _ => ⟨fun c hc => (nomatch hc), Nat.le_refl _⟩
  | u :: us, h => by
    obtain ⟨a, b⟩ := flat_ok (us := us) fun u hu => h u (List.mem_cons_of_mem _ hu)
    obtain ⟨c, d⟩ := h u List.mem_cons_self
    rw [List.flatten_cons]
    exact ⟨c.append a, by rw [List.length_append, List.length_cons]; omega⟩
theorem fmod_nat {a : Int} {b : Nat} (hb : 0 < b) : ∃ P : Nat, a.fmod b = P ∧ P < b := by
  have h1 : a.fmod b = a % b := Int.fmod_eq_emod_of_nonneg _ (by omega)
  have h2 := Int.emod_nonneg a (b := (b : Int)) (by omega)
  have h3 := Int.emod_lt_of_pos a (b := (b : Int)) (by omega)
  exact ⟨(a.fmod b).toNat, by omega, by omega⟩
end
section
open PySem PySem.W PySem.Calls PyProof PyProof.Rows
theorem edits_ok : ScopeOk (scopeOf 59) := ⟨rfl, rfl, rfl, by decide, by decide⟩
section
variable {prog : Program} {w : World} {A : Around} {s : Shared} {g : Gh} {mg : PySem.Str → Option Value} {ad : Ads}
set_option maxRecDepth 100000 in
set_option maxHeartbeats 1000000 in
theorem edits_spec {nv : Value} {ns : List Int} (hR : Room 20 A) (hg : Le g s.heap.get?) (G : Glb prog w g mg ad) (M : Nms mg ad) (hv : Rep g nv (.list (ns.map PyData.int))) (hok : ns.length ≤ 8) :
    wpAny (model prog w) A (call (.ref ad.edits) [nv]) (Ret s g fun g' r => ∃ es, EdOk es ∧ Rep g' r (.list (es.map encEdit))) Never s := by
  refine call_fnA (binds := [(PySem.Str.ofString "numbers", nv)]) (hR.le (by omega)) hg G.top G.edits edits_ok (fun _ _ _ _ _ => BindsTo.of_eq (by rfl)) ?_ ?_
  · intro n x hx
    simp only [List.mem_singleton] at hx
    subst hx
    exact .inl rfl
  · intro cd L s' S R₀ hR₀
    obtain ⟨le, ve, ne, rfl, hle, hre⟩ := hv.list_inv
    have hvel : ve.length = ns.length := by rw [hre.length, List.length_map]
    have hcells : (envC (nameOf 59) (scopeOf 59) L ad.edits cd).cells = [(PySem.Str.ofString "x", L + 2), (PySem.Str.ofString "signs", L + 1)] := rfl
    refine execs_gen ?_
    intro R₁ hR₁
    walk_at "mine.go"
    refine r_new (by assumption) (by walk_at "mine.sz") ?_
    intro ls g1 s1 hl1 hb1 S1
    obtain ⟨vs, hvs, hs1⟩ : ∃ vs, g1 ls = some (lst vs 0) ∧ StrsAre vs (sg.map Tx) := by
      refine ⟨_, hb1, ?_⟩
      have e : sg.map Tx = [PySem.Str.ofString "", PySem.Str.ofString "=", PySem.Str.ofString "*", PySem.Str.ofString ".", PySem.Str.ofString "-", PySem.Str.ofString ">", PySem.Str.ofString "/", PySem.Str.ofString "<", PySem.Str.ofString "a"] := by decide +kernel
      rw [e]
      exact .cons _ _ (.cons _ _ (.cons _ _ (.cons _ _ (.cons _ _ (.cons _ _ (.cons _ _ (.cons _ _ (.cons _ _ .nil))))))))
    walk_at "mine.go"
    refine r_new (by assumption) (by walk_at "mine.sz") ?_
    intro b2 g2 s2 hl2 hb2 S2
    walk_at "mine.go"
    refine r_newO (by assumption) (by walk_at "mine.sz") ?_
    intro D s3 S3
    walk_at "mine.go"
    have hle2 := hl2 _ _ (hl1 _ _ hle)
    refine r_for hR.deeper.1 (by assumption) hle2 (fun i vl' g' own' => ∃ es ev n ts, own' = [(D, lst ev n)] ∧ V vl' (PySem.Str.ofString "signs") = some (.ref ls) ∧ V vl' (PySem.Str.ofString "edits") = some (.ref D) ∧ V vl' (PySem.Str.ofString "size") = some (.int (endT es).length ts) ∧
      Reps g' ev (es.map encEdit) ∧ EdOk es ∧ es.length = i + 1) ?_ ?_ ?_ (.inl fun _ _ => rfl)
    · refine ⟨[(0, 0, [97, 42, 42, 61, 46, 46, 46, 45, 62])], _, 0, _, rfl, rfl, rfl, rfl, ?_, ⟨by decide, fun i e he => ?_⟩, rfl⟩
      · refine .one (.list hb2 (.cons (.int _ _) (.cons (.int _ _) (.cons ?_ .nil))))
        have e : Tx [97, 42, 42, 61, 46, 46, 46, 45, 62] = PySem.Str.ofString "a**=...->" := by decide +kernel
        show Rep _ _ (.str (Tx [97, 42, 42, 61, 46, 46, 46, 45, 62]))
        rw [e]
        exact .str _ _
      · cases i with
        | zero => cases he; exact ⟨by decide, fun c hc => by revert c; decide, by decide⟩
        | succ i => simp at he
    · rintro i v vl' g' own' it s4 R hK hvi ⟨es, ev, n, ts, rfl, v1, v2, v3, hev, heo, hel⟩ hle' S4
      have hup : Le g g' := Le.trans hl1 (Le.trans hl2 hle')
      have G' := G.mono hup
      have hil : i < ns.length := by
        rw [← hvel]
        by_cases h : i < ve.length
        · exact h
        · rw [List.getElem?_eq_none (by omega)] at hvi; cases hvi
      obtain ⟨d, hd1, hd2⟩ := hre.getV hvi
      rw [List.getElem?_map] at hd1
      obtain ⟨x, hx, rfl⟩ := Option.map_eq_some_iff.mp hd1
      obtain ⟨tx, rfl⟩ := hd2.int_inv
      walk_at "mine.go"
      refine r_mod (by assumption) (by omega) ?_
      intro t5 s5 S5
      obtain ⟨P, hP, hP2⟩ := fmod_nat (a := x) (b := (endT es).length + 1) (by omega)
      rw [show ((endT es).length : Int) + 1 = (((endT es).length + 1 : Nat) : Int) by omega, hP]
      walk_at "mine.go"
      refine r_mod (by assumption) (by omega) ?_
      intro t6 s6 S6
      obtain ⟨R', hR1, hR2⟩ : ∃ R : Nat, x.fmod 3 = R ∧ R < 3 := fmod_nat (a := x) (b := 3) (by omega)
      rw [hR1]
      walk_at "mine.go"
      refine r_min2 (by assumption) hR.deeper.1 ?_
      intro t7 s7 S7
      obtain ⟨N, hN, hN2⟩ : ∃ N : Nat, (if ((endT es).length : Int) - P < R' then ((endT es).length : Int) - P else (R' : Int)) = N ∧ P + N ≤ (endT es).length := by
        split
        · exact ⟨(endT es).length - P, by omega, by omega⟩
        · exact ⟨R', rfl, by omega⟩
      rw [hN]
      walk_at "mine.go"
      refine r_joinC (by assumption) (by rfl) (by rfl) (by rfl) ?_
      intro t8 s8 S8
      refine r_comp (cl := [(PySem.Str.ofString "x", L + 2), (PySem.Str.ofString "signs", L + 1)]) (by rfl) (by rfl) (by decide) ?_
      walk_at "mine.go"
      refine r_new (by assumption) (by walk_at "mine.sz") ?_
      intro lw gw s9 hlew hlw S9
      have hls : gw ls = some (lst vs 0) := hlew _ _ (hle' _ _ (hl2 _ _ hvs))
      refine r_go0 (cvl := [(PySem.Str.ofString "x", .int x tx), (PySem.Str.ofString "signs", .ref ls)]) (by assumption) hR.deeper.1 hlw (by simp) (.inl fun _ _ => rfl) (by decide) rfl ?_ ?_ (by simp; decide) ?_
        (fun j ys g2 => ∃ us : List (List Nat), Reps g2 ys (us.map fun u => PyData.str (Tx u)) ∧ us.length = j ∧ ∀ u ∈ us, Alph u ∧ u.length ≤ 1)
        (fun cvl => V cvl (PySem.Str.ofString "x") = some (.int x tx) ∧ V cvl (PySem.Str.ofString "signs") = some (.ref ls)) ⟨[], .nil, rfl, fun u hu => nomatch hu⟩ ⟨rfl, rfl⟩ ?_ ?_
      · intro p hp'
        simp only [List.mem_cons, List.not_mem_nil, or_false] at hp'
        rcases hp' with rfl | rfl
        · exact ⟨by rw [hcells]; simp, rfl⟩
        · exact ⟨by rw [hcells]; simp, (show V _ _ = _ from rfl).trans v1.symm⟩
      · intro p hp'
        simp only [List.mem_cons, List.not_mem_nil, or_false] at hp'
        rcases hp' with rfl | rfl <;> rfl
      · refine loc_none fun p hp' => ?_
        simp only [List.mem_cons, List.not_mem_nil, or_false] at hp'
        rcases hp' with rfl | rfl <;> exact fun h => by cases (show some NameKind.cell = some NameKind.local from h)
      · rintro C j v ys g2 cvl pI pD s10 hv10 ⟨us, hJ1, hJ2, hJ3⟩ hle10 ⟨k1, k2⟩ S10
        obtain ⟨z, tz, hz1, hz2, rfl⟩ : ∃ (z : Int) (tz : Tok), 0 < z ∧ z < 1000 ∧ v = .int z tz := by
          match j, hv10 with
          | 0, h => simp at h; exact ⟨3, _, by decide, by decide, h.symm⟩
          | 1, h => simp at h; exact ⟨27, _, by decide, by decide, h.symm⟩
          | 2, h => simp at h; exact ⟨243, _, by decide, by decide, h.symm⟩
          | j + 3, h => simp at h
        walk_at "mine.go"
        refine r_fdiv (by assumption) hz1 hz2 ?_
        intro t11 s11 S11
        walk_at "mine.go"
        refine r_mod (by assumption) (by omega) ?_
        intro t12 s12 S12
        obtain ⟨K, hK, hK2⟩ : ∃ K : Nat, (x.fdiv z).fmod 9 = K ∧ K < 9 := fmod_nat (a := x.fdiv z) (b := 9) (by omega)
        rw [hK]
        obtain ⟨u, hu⟩ : ∃ u, sg[K]? = some u := ⟨_, List.getElem?_eq_getElem (by exact hK2)⟩
        obtain ⟨tu, htu⟩ := strs_get hs1 (i := K) (y := Tx u) (by rw [List.getElem?_map, hu]; rfl)
        refine r_item (by assumption) (hle10 _ _ hls) (by omega) (by omega) (by simpa using htu) ?_
        refine ⟨g2, _, ⟨us ++ [u], ?_, by rw [List.length_append, hJ2]; rfl, ?_⟩, Le.refl _, ?_, by assumption⟩
        · rw [List.map_append]; exact hJ1.append (.one (.str _ _))
        · intro u' hu'
          rcases List.mem_append.mp hu' with h | h
          · exact hJ3 u' h
          · rw [List.mem_singleton] at h; subst h; exact sg_ok _ (List.mem_of_getElem? hu)
        · exact ⟨by walk_at "mine.v", by walk_at "mine.v"⟩
      · rintro yp DP np g3 g4 s10 ⟨us, hJ1, hJ2, hJ3⟩ hle10 hle10' hDP S10
        have hJ2 : us.length = 3 := hJ2
        obtain ⟨ha, hl3⟩ := flat_ok hJ3
        have G4 := G'.mono (Le.trans hlew hle10)
        refine r_joinL (us := us) (by assumption) hDP hJ1.strs (by omega) (fun u hu => (hJ3 u hu).2) ?_
        intro t11 s11 S11
        have hel : ev.length ≤ 1000 := by
          have := hev.length
          rw [List.length_map] at this
          omega
        walk_at "mine.go"
        refine r_new (by assumption) (by walk_at "mine.sz") ?_
        intro b5 g5 s12 hle12 hb5 S12
        have G5 := G4.mono hle12
        walk_at "mine.go"
        refine r_slen (by assumption) (by walk_at "mine.sz") ?_
        intro t13 s13 S13
        walk_at "mine.go"
        have hapl := ap_len (x := endT es) (put := us.flatten) hN2
        have upx : Le g' g5 := Le.trans hlew (Le.trans hle10 hle12)
        have e : ((endT (es ++ [(P, N, us.flatten)])).length : Int) = ((endT es).length : Int) + ((us.flatten.length : Int) - N) := by
          rw [endT_snoc]; show ((ap (endT es) P N us.flatten).length : Int) = _; omega
        refine ⟨_, g5, [(D, lst (ev ++ [.ref b5]) _)], by assumption, upx, es ++ [(P, N, us.flatten)], ev ++ [.ref b5], _, _, rfl, by walk_at "mine.v", by walk_at "mine.v", (by rw [e]; exact rfl), ?_, ?_, by rw [List.length_append]; show _ + 1 = _; omega⟩
        · rw [List.map_append]
          exact (hev.mono upx).append (.one (.list hb5 (.cons (.int _ _) (.cons (.int _ _) (.cons (.str _ _) .nil)))))
        · exact heo.snoc (by omega) hN2 ha (by show us.flatten.length ≤ 9; omega)
    · rintro vl' g' own' s4 ⟨es, ev, n, ts, rfl, v1, v2, v3, hev, heo, hel⟩ hle' S4
      obtain ⟨gF, hgF, hDF, SF⟩ := S4.freezeE
      walk_at "mine.go"
      walk_at "mine.go"
      exact St.done (by assumption) ⟨es, heo, .list hDF (hev.mono hgF)⟩
end
end
section
open PySem PySem.W PySem.Calls PyProof PyProof.Rows
noncomputable def Dp (n : Nat) (d : PyData) : Prop := d.canLay0 = true ∧ d.depth ≤ n
theorem Dp.int (n : Nat) (i : Int) : Dp n (.int i) := ⟨by simp [PyData.canLay0], by simp [PyData.depth]⟩
theorem Dp.bool (n : Nat) (i : Bool) : Dp n (.bool i) := ⟨by simp [PyData.canLay0], by simp [PyData.depth]⟩
theorem Dp.list {n : Nat} {ds : List PyData} (h : ∀ d ∈ ds, Dp n d) : Dp (n + 1) (.list ds) := by
  have : PyData.canLayAll0 ds = true ∧ PyData.depthAll ds ≤ n := by
    induction ds with
    | nil => exact ⟨by simp [PyData.canLayAll0], by simp [PyData.depthAll]⟩
    | cons d r ih =>
      obtain ⟨a, b⟩ := ih fun d hd => h d (List.mem_cons_of_mem _ hd)
      obtain ⟨c, e⟩ := h d List.mem_cons_self
      refine ⟨by rw [PyData.canLayAll0, a, c]; rfl, ?_⟩
      rw [PyData.depthAll]; omega
  refine ⟨by rw [PyData.canLay0]; exact this.1, ?_⟩
  rw [PyData.depth]; omega
theorem Dp.le {n m : Nat} {d : PyData} (h : Dp n d) (k : n ≤ m) : Dp m d := ⟨h.1, Nat.le_trans h.2 k⟩
theorem spec_ok (es : List Edit) : Dp 10 (spec es) := by
  unfold spec
  refine Dp.list (n := 9) fun d hd => ?_
  simp only [List.mem_cons, List.not_mem_nil, or_false] at hd
  rcases hd with rfl | rfl
  · refine Dp.list (n := 8) fun d hd => ?_
    unfold ansL at hd
    obtain ⟨j, _, rfl⟩ := List.mem_map.mp hd
    unfold ans
    refine Dp.list (n := 7) fun d hd => ?_
    simp only [List.mem_cons, List.not_mem_nil, or_false] at hd
    rcases hd with rfl | rfl
    · refine Dp.list (n := 6) fun d hd => ?_
      obtain ⟨p, _, rfl⟩ := List.mem_map.mp hd
      refine Dp.list (n := 5) fun d hd => ?_
      simp only [List.mem_cons, List.not_mem_nil, or_false] at hd
      rcases hd with rfl | rfl <;> exact .int _ _
    · exact .int _ _
  · refine Dp.list (n := 8) fun d hd => ?_
    unfold holdL at hd
    obtain ⟨j, _, rfl⟩ := List.mem_map.mp hd
    unfold hold
    refine Dp.list (n := 7) fun d hd => ?_
    simp only [List.mem_cons, List.not_mem_nil, or_false] at hd
    rcases hd with rfl | rfl | rfl | rfl
    · exact .int _ _
    all_goals exact .bool _ _
section
variable {prog : Program} {w : World} {A : Around} {E : Value → Shared → Prop} {s₀ s : Shared} {g₀ g : Gh} {env : Env} {vl : List (PySem.Str × Value)} {own : List (Addr × Obj)} {Q : Value → Shared → Prop}
theorem r_eqD {a b : Value} {d : PyData} (S : St s₀ g₀ g env (V vl) own s) (ra : Rep g a d) (rb : Rep g b d) (hd : Dp 10 d) (hu : A.units + 64 < cLine) (h : Q (.bool true) s) : wpAny (model prog w) A (compareOp .Eq a b) Q E s := by
  obtain ⟨as, ha⟩ := ra.reads S.keep
  obtain ⟨bs, hb⟩ := rb.reads S.keep
  have hs : SeqAt.shaped d = true := by
    unfold SeqAt.shaped; rw [hd.1, Bool.true_and]; exact decide_eq_true (Nat.le_trans hd.2 (by decide))
  refine eq_dataH ha hb hs hs hu ?_
  rw [SeqAt.eqv_refl d hd.1]; exact h
noncomputable def ListG (g : Gh) (l : Addr) (vs : List Value) : Prop := ∃ o, g l = some o ∧ o.cls = .type "list" ∧ ∃ n, o.data = .seq vs.toArray n
theorem ListG.at {h : Heap} {l : Addr} {vs : List Value} (x : ListG g l vs) (hk : Le g h.get?) : h.IsList l vs.toArray := let ⟨o, e, c, n, d⟩ := x; ⟨o, hk _ _ e, c, n, d⟩
theorem ListG.mono {g' : Gh} {l : Addr} {vs : List Value} (x : ListG g l vs) (hk : Le g g') : ListG g' l vs := let ⟨o, e, c, n, d⟩ := x; ⟨o, hk _ _ e, c, n, d⟩
/-- a slice of a list that is only known to be one -/
theorem r_lslI {value slice : PySem.Expr} {l : Addr} {vs ws : List Value} {va vb : Value} {lo hi : Option Int} (S : St s₀ g₀ g env (V vl) own s) (hl : ListG g l vs) (hsz : vs.length ≤ sizeLine)
    (pa : IsPart va lo) (pb : IsPart vb hi) (hp : slicePick vs.toArray lo hi none = ws.toArray) (h : ∀ a g' s', Le g g' → g' a = some (lst ws 0) → St s₀ g₀ g' env (V vl) own s' → Q (.ref a) s')
    (hs : subscripted slice false (.ref l) (.ref s.heap.objs.size) = operate [.ref s.heap.objs.size, .ref l] (getItem (.ref l) (.ref s.heap.objs.size)) := by with_unfolding_all rfl) :
    wpAny (model prog w) A (subscriptTail value slice (.ref l) (.ref s.heap.objs.size)) Q E { s with heap := s.heap.push { cls := .type "slice", data := .fields #[va, vb, .none] } } := by
  have S1 := S.push { cls := .type "slice", data := .fields #[va, vb, .none] }
  have hl1 := hl.at S1.keep
  refine tail_any hl1.typeIs slot_list_getitem.lookup (wpAny_getItem_list_slice hl1 ⟨_, Heap.get?_push_size _ rfl, rfl, rfl⟩ pa pb .none (by intro x; cases x) ?_ (by simpa using hsz)) hs
  rw [hp]
  exact h _ _ _ S1.sizeLe (if_pos rfl) (S1.pushG (lst ws 0))
theorem r_pow {a n : Int} {t u : Tok} (S : St s₀ g₀ g env (V vl) own s) (hn : 0 ≤ n) (hn2 : n ≤ 1000000) (ha : a.natAbs < 2 ^ 64) (h : ∀ t s', St s₀ g₀ g env (V vl) own s' → Q (.int (a ^ n.toNat) t) s') :
    wpAny (model prog w) A (binaryOp .Pow (.int a t) (.int n u)) Q E s := pow_int_small hn hn2 ha (h _ _ (S.toks _))
end
theorem ints_take {vs : List Value} {ns : List Int} (h : IntsAre vs ns) : ∀ {i : Nat} {v : Value}, vs[i]? = some v → ∃ n t, v = .int n t := by
  induction h with
  | nil => intro i v h; simp at h
  | cons n t r ih =>
    intro i v h
    cases i with
    | zero => simp at h; exact ⟨n, t, h.symm⟩
    | succ i => simp at h; exact ih h
section
variable {prog : Program} {w : World} {A : Around} {s s' : Shared} {g : Gh} {mg : PySem.Str → Option Value} {ad : Ads}
set_option maxRecDepth 100000 in
set_option maxHeartbeats 1000000 in
theorem law_body {l L a : Addr} {cd : Value} {vs : List Value} {ns : List Int} (hR : Room 20 A) (G : Glb prog w g mg ad) (M : Nms mg ad)
    (S : St s g g (envOf (nameOf 66) (scopeOf 66) L a cd) (V [(PySem.Str.ofString "script", .ref l)]) [] s') (hl : ListG g l vs) (hi : IntsAre vs ns) (hsz : vs.length ≤ 1000) :
    wpAny (model prog w) A (execs (bodyOf 66) (envOf (nameOf 66) (scopeOf 66) L a cd)) (fun f s'' => Ret s g (fun _ r => r = .bool true) (match f with | .ret v => v | _ => .none) s'') Never s' := by
  refine execs_gen fun R₁ hR₁ => ?_
  walk_at "mine.go"
  refine r_cwA G.edits ?_
  walk_at "mine.go"
  refine r_new (by assumption) (by walk_at "mine.sz") ?_
  intro b1 g1 s1 hl1 hb1 S1
  have G1 := G.mono hl1
  walk_at "mine.go"
  refine r_comp (cl := []) (by rfl) (by rfl) (by decide) ?_
  walk_at "mine.go"
  refine r_lslI (ws := vs.take 5) (by assumption) (hl.mono hl1) (by walk_at "mine.sz") .none (.int _ _) (by simpa using slicePick_upto' vs.toArray 5) ?_
  intro lw gw s6 hlew hlw S6
  refine r_go0 (cvl := []) S6 hR.1 hlw (by rw [List.length_take]; omega) (.inl fun _ _ => rfl) (by decide) rfl (fun p hp => nomatch hp) (fun p hp => nomatch hp) List.nodup_nil (fun x _ => rfl)
    (fun j ys g2 => ∃ ms : List Int, Reps g2 ys (ms.map PyData.int) ∧ ms.length = j) (fun _ => True) ⟨[], .nil, rfl⟩ trivial ?_ ?_
  · rintro C j v ys g2 cvl pI pD s7 hv7 ⟨ms, hJ1, hJ2⟩ hle7 _ S7
    rw [List.getElem?_take] at hv7
    split at hv7
    · obtain ⟨n, t, rfl⟩ := ints_take hi hv7
      walk_at "mine.go"
      refine r_pow (by assumption) (by decide) (by decide) (by decide) ?_
      intro t8 s8 S8
      refine r_mod (by assumption) (by decide) ?_
      intro t9 s9 S9
      refine ⟨g2, _, ⟨ms ++ [n.fmod (10 ^ (5 : Int).toNat)], ?_, by rw [List.length_append, hJ2]; rfl⟩, Le.refl _, trivial, by assumption⟩
      rw [List.map_append]
      exact hJ1.append (.one (.int _ _))
    · cases hv7
  · rintro ys D n g2 g3 s7 ⟨ms, hJ1, hJ2⟩ hle7 hle8 hD S7
    have hJ3 : ms.length ≤ 5 := by rw [hJ2, List.length_take]; omega
    have hyl : ys.length = ms.length := by rw [hJ1.length, List.length_map]
    have up : Le g g3 := Le.trans hl1 (Le.trans hlew hle7)
    have hb1' := hle7 _ _ (hlew _ _ hb1)
    refine r_ladd (by assumption) hb1' hD (by walk_at "mine.sz") ?_
    intro la ga s8 hlea hla S8
    have Ga := G.mono (Le.trans up hlea)
    walk_at "mine.go"
    refine ⟨by walk_at "mine.le", ?_⟩
    refine r_call (by assumption) (edits_spec (ns := [10944, 10936, 17499] ++ ms) hR (by walk_at "mine.le") Ga M (.list hla ?_) (by simp; omega)) ?_
    · rw [List.map_append]
      exact Reps.append (.cons (.int _ _) (.cons (.int _ _) (.cons (.int _ _) .nil))) (hJ1.mono (Le.trans hle8 hlea))
    rintro ve ge s9 hlee S9 ⟨es, heo, hre⟩
    have Ge := Ga.mono hlee
    walk_at "mine.go"
    refine r_cwA G.kept ?_
    walk_at "mine.go"
    refine ⟨by walk_at "mine.le", ?_⟩
    refine r_call (by assumption) (kept_spec hR (by walk_at "mine.le") Ge M hre heo) ?_
    intro vk gk s10 hlek S10 hrk
    have Gk := Ge.mono hlek
    walk_at "mine.go"
    refine r_cwA G.told ?_
    walk_at "mine.go"
    refine ⟨by walk_at "mine.le", ?_⟩
    refine r_call (by assumption) (told_spec hR (by walk_at "mine.le") Gk M (hre.mono hlek) heo) ?_
    intro vt gt s11 hlet S11 hrt
    walk_at "mine.go"
    refine r_eqD S11 (hrk.mono hlet) hrt (spec_ok es) (by have := hR.2.2; omega) ?_
    walk_at "mine.go"
    exact St.done S11 rfl
end
end
section
open PySem PySem.W PySem.Calls PyProof PyProof.Rows
/-- the frame at the entry -/
theorem St.entry {s₁ : Shared} {h₁ : Heap} {k : Nat} {env : Env} {m : PySem.Str → Option Value} {vl : List (PySem.Str × Value)} (F : Fr s₁.heap s₁.heap.objs.size h₁ m) (hloc : env.locals = s₁.heap.objs.size) (hc : env.cells = [])
    (hm : ∀ x, m x = V vl x) : St s₁ s₁.heap.get? s₁.heap.get? env (V vl) [] { s₁ with heap := h₁, toks := k } := by
  have hp : prv env [] = [s₁.heap.objs.size] := by
    unfold prv pcs
    rw [hc, hloc]; split <;> rfl
  have hfresh : s₁.heap.get? s₁.heap.objs.size = none := by
    cases e : s₁.heap.get? s₁.heap.objs.size with
    | none => rfl
    | some o => exact absurd (Heap.lt_size e) (Nat.lt_irrefl _)
  refine ⟨rfl, rfl, ⟨m, hloc ▸ F.ns, fun x _ => hm x⟩, fun x c h => ?_, by rw [hp]; simp, F.keep, F.keep, fun a ha => ?_, (fun p hp => nomatch hp), Le.refl _, (fun a o e => .inr e), fun p h => ?_, by rw [hc]; exact List.nodup_nil, fun _ p h => ?_⟩
  · rw [hc] at h; cases h
  · rw [hp, List.mem_singleton] at ha; subst ha; exact ⟨hfresh, hfresh⟩
  · rw [hc] at h; cases h
  · rw [hc] at h; cases h
section
variable {prog : Program} {w : World} {K : Frag} {h : Heap} {mg mb : PySem.Str → Option Value}
theorem mg_of (X : K.In h) (hmg : h.Ns mainGlobals mg) {x : PySem.Str} {r : Option Value} (e : nsIn K mainGlobals x = some r) : mg x = r := by
  obtain ⟨o, es, ep, ho, hd, _, hf⟩ := hmg
  unfold nsIn at e
  split at e
  · rename_i c dd es' n sl hl
    have := X _ _ hl
    rw [ho] at this
    cases this
    cases hd
    rw [← hf x]
    unfold nsFind
    obtain ⟨l⟩ := es
    unfold findBy
    rw [List.find?_toArray]
    dsimp only at e
    split at e
    · rename_i e' h'; rw [h']; exact Option.some.inj e
    · rename_i h'
      rw [h']
      split at e
      · cases e
      · exact Option.some.inj e
  · cases e
theorem fnA_of (X : K.In h) {i : Nat} {a : Addr} {oc : Value} {od : Option Addr} {sl : Array (Option Value)} {doc pm : Value} {an : Option Addr} {cd ct : Value}
    (hl : K.lookup a = some ⟨oc, od, .func (PySem.W.fnOf (nameOf i) (nameOf i) (paramsOf i) (bodyOf i) (scopeOf i) .none .none doc pm an cd ct), sl⟩) (hc : codeIn K cd (nameOf i) = true) : FnA h.get? i a :=
  ⟨doc, pm, an, cd, ct, ⟨oc, od, sl, X _ _ hl⟩, codeRec_of X hc⟩
theorem fnD_of (X : K.In h) {i : Nat} {a T : Addr} {oc d : Value} {od : Option Addr} {sl : Array (Option Value)} {doc pm : Value} {an : Option Addr} {cd ct : Value} {oT : Obj} {t : Tok} {n : Nat}
    (hl : K.lookup a = some ⟨oc, od, .func (PySem.W.fnOf (nameOf i) (nameOf i) (paramsOf i) (bodyOf i) (scopeOf i) (.ref T) d doc pm an cd ct), sl⟩) (hc : codeIn K cd (nameOf i) = true)
    (hT : K.lookup T = some oT) (hd : oT.data = .seq #[.int 0 t, .none] n) : FnD h.get? i a :=
  ⟨doc, pm, an, cd, ct, T, d, oT, t, n, ⟨⟨oc, od, sl, X _ _ hl⟩, codeRec_of X hc⟩, X _ _ hT, hd⟩
/-- is a name an int -/
noncomputable def intAt (K : Frag) (x : PySem.Str) (i : Int) : Bool := match nsIn K mainGlobals x with
  | some (some (.int j _)) => j == i
  | _ => false
theorem int_of (X : K.In h) (hmg : h.Ns mainGlobals mg) {x : PySem.Str} {i : Int} (e : intAt K x i = true) : ∃ t, mg x = some (.int i t) := by
  unfold intAt at e
  split at e
  · rename_i j t hn
    have hj : j = i := by simpa using e
    subst hj
    exact ⟨t, mg_of X hmg hn⟩
  · cases e
noncomputable def refAt (K : Frag) (x : PySem.Str) (a : Addr) : Bool := match nsIn K mainGlobals x with
  | some (some (.ref b)) => b == a
  | _ => false
theorem ref_of (X : K.In h) (hmg : h.Ns mainGlobals mg) {x : PySem.Str} {a : Addr} (e : refAt K x a = true) : mg x = some (.ref a) := by
  unfold refAt at e
  split at e
  · rename_i b hn
    have hj : b = a := by simpa using e
    subst hj
    exact mg_of X hmg hn
  · cases e
noncomputable def noneAt (K : Frag) (x : PySem.Str) : Bool := match nsIn K mainGlobals x with
  | some none => true
  | _ => false
theorem none_of (X : K.In h) (hmg : h.Ns mainGlobals mg) {x : PySem.Str} (e : noneAt K x = true) : mg x = none := by
  unfold noneAt at e
  split at e
  · rename_i hn; exact mg_of X hmg hn
  · cases e
noncomputable def adsK : Ads := { edits := 61, start := 68, piece := 75, mended := 80, kept := 87, cut := 94, told := 99, right := 23, left := 32, term := 42, nonterm := 49, eof := 56 }
noncomputable def namesOk (K : Frag) (ad : Ads) : Bool :=
  refAt K (PySem.Str.ofString "_law_edits") ad.edits && (refAt K (PySem.Str.ofString "_law_start") ad.start && (refAt K (PySem.Str.ofString "_law_piece") ad.piece && (refAt K (PySem.Str.ofString "_law_mended") ad.mended && (
  refAt K (PySem.Str.ofString "_law_kept") ad.kept && (refAt K (PySem.Str.ofString "_law_cut") ad.cut && (refAt K (PySem.Str.ofString "_law_told") ad.told && (refAt K (PySem.Str.ofString "bisect_right") ad.right && (
  refAt K (PySem.Str.ofString "bisect_left") ad.left && (refAt K (PySem.Str.ofString "ISTERMINAL") ad.term && (refAt K (PySem.Str.ofString "ISNONTERMINAL") ad.nonterm && (refAt K (PySem.Str.ofString "ISEOF") ad.eof && (
  intAt K (PySem.Str.ofString "NT_OFFSET") 256 && (intAt K (PySem.Str.ofString "ENDMARKER") 0 && (noneAt K (PySem.Str.ofString "len") && (noneAt K (PySem.Str.ofString "min") && (noneAt K (PySem.Str.ofString "max") && (
  noneAt K (PySem.Str.ofString "ord") && noneAt K (PySem.Str.ofString "range"))))))))))))))))))
theorem nms_of (X : K.In h) (hmg : h.Ns mainGlobals mg) {ad : Ads} (e : namesOk K ad = true) : Nms mg ad := by
  unfold namesOk at e
  simp only [Bool.and_eq_true] at e
  obtain ⟨e1, e2, e3, e4, e5, e6, e7, e8, e9, e10, e11, e12, e13, e14, e15, e16, e17, e18, e19⟩ := e
  exact ⟨ref_of X hmg e1, ref_of X hmg e2, ref_of X hmg e3, ref_of X hmg e4, ref_of X hmg e5, ref_of X hmg e6, ref_of X hmg e7, ref_of X hmg e8, ref_of X hmg e9, ref_of X hmg e10, ref_of X hmg e11, ref_of X hmg e12,
    int_of X hmg e13, int_of X hmg e14, none_of X hmg e15, none_of X hmg e16, none_of X hmg e17, none_of X hmg e18, none_of X hmg e19⟩
/-- the kinds, text by text -/
noncomputable def sameKind : Option Value → Option Int → Bool
  | some (.int k _), some j => k == j
  | none, none => true
  | _, _ => false
noncomputable def entOk (e : DictEntry) : Bool := match e.key with
  | .str x _ => !(x.cps.toList.all fun c => signs8.contains c) || sameKind (some e.val) (kd x.cps.toList)
  | _ => false
noncomputable def rowOk (es : Array DictEntry) (p : List Nat × Int) : Bool := sameKind (findBy Value.isStrOf es (Tx p.1)) (some p.2)
theorem same_inv {a : Option Value} {b : Option Int} (h : sameKind a b = true) : (∃ k t, a = some (.int k t) ∧ b = some k) ∨ (a = none ∧ b = none) := by
  unfold sameKind at h
  split at h
  · rename_i k t j
    have hj : k = j := by simpa using h
    subst hj
    exact .inl ⟨k, t, rfl, rfl⟩
  · exact .inr ⟨rfl, rfl⟩
  · cases h
theorem tab_of (X : K.In h) (hmg : h.Ns mainGlobals mg) {d : Addr} {es : Array DictEntry} {n : Nat} (e : refAt K (PySem.Str.ofString "EXACT_TOKEN_TYPES") d = true) (hs : (d == sysModules) = false) (hl : K.lookup d = some ⟨.type "dict", none, .dict es n, #[]⟩)
    (hk : KeysLit w.params es.toList) (ht : (es.toList.all entOk && kdT.all (rowOk es)) = true) : TabG prog w h.get? mg := by
  obtain ⟨ht1, ht2⟩ := Bool.and_eq_true_iff.mp ht
  refine ⟨d, _, ref_of X hmg e, hs, mapOf_K X hl hk, fun u hu _ => ?_⟩
  cases hf : findBy Value.isStrOf es (Tx u) with
  | none =>
    refine .inr ⟨rfl, ?_⟩
    cases hq : kd u with
    | none => rfl
    | some k =>
      have := List.all_eq_true.mp ht2 _ (kd_mem hq)
      unfold rowOk at this
      dsimp only at this
      rw [hf] at this
      cases this
  | some v =>
    refine .inl ?_
    unfold findBy at hf
    obtain ⟨l⟩ := es
    rw [List.find?_toArray] at hf
    have hq : ∃ en, en ∈ l ∧ Value.isStrOf (Tx u) en.key = true ∧ en.val = v := by
      obtain ⟨en, hen, he⟩ := Option.map_eq_some_iff.mp hf
      exact ⟨en, List.mem_of_find?_eq_some hen, (by simpa using List.find?_some hen), he⟩
    obtain ⟨en, h1, h2, rfl⟩ := hq
    obtain ⟨t, h3⟩ := Value.isStrOf_shape h2
    have h4 := List.all_eq_true.mp ht1 en h1
    unfold entOk at h4
    rw [h3] at h4
    have h5 : (Tx u).cps.toList = u := by simp [Tx]
    dsimp only at h4
    rw [h5] at h4
    have h6 : (u.all fun c => signs8.contains c) = true := List.all_eq_true.mpr fun c hc => by simpa using hu c hc
    rw [h6] at h4
    rcases same_inv (a := some en.val) (b := kd u) (by simpa using h4) with ⟨k, tk, h7, h8⟩ | ⟨h7, _⟩
    · exact ⟨k, tk, h7, h8⟩
    · cases h7
end
end
section
open PySem PySem.W PySem.Calls PyProof PyProof.Rows
theorem finish {prog : Program} {w : World} {s₁ : Shared} {h₁ : Heap} {k : Nat} {mg : PySem.Str → Option Value} {l fa : Addr} {cd : Value} {vs : List Value} {ns : List Int} {m : PySem.Str → Option Value} {Q : Flow → Shared → Prop} {E : Value → Shared → Prop}
    (G : Glb prog w s₁.heap.get? mg adsK) (M : Nms mg adsK) (F : Fr s₁.heap s₁.heap.objs.size h₁ m) (hm : ∀ x, m x = V [(PySem.Str.ofString "script", .ref l)] x) (hl : s₁.heap.IsList l vs.toArray) (hi : IntsAre vs ns) (hsz : ns.length ≤ 63)
    (hq : ∀ f s'', (match f with | .ret v => v | _ => .none) = .bool true → s''.gens = s₁.gens → s''.os = s₁.os → (∀ a o, s₁.heap.get? a = some o → s''.heap.get? a = some o) → Q f s'') :
    wpAny (model prog w) (callerA.deeper (envOf (nameOf 66) (scopeOf 66) s₁.heap.objs.size fa cd)) (execs (bodyOf 66) (envOf (nameOf 66) (scopeOf 66) s₁.heap.objs.size fa cd)) Q E { s₁ with heap := h₁, toks := k } := by
  have hR : Room 20 (callerA.deeper (envOf (nameOf 66) (scopeOf 66) s₁.heap.objs.size fa cd)) := ⟨rfl, by show callerA.depth + 1 + 20 < _; decide +kernel, by show callerA.units + 3 + 10 * 20 + 300 < _; decide +kernel⟩
  obtain ⟨o, ho, hc, n, hd⟩ := hl
  refine wpAny_mono (law_body (vs := vs) hR G M (St.entry F rfl rfl hm) ⟨o, ho, hc, n, hd⟩ hi ?_) (fun f s'' h => ?_) fun _ _ x => x.elim
  · have := hi.length
    omega
  · obtain ⟨h1, h2, h3, _, _, _, _, h4⟩ := h
    exact hq f s'' h4 h1 h2 h3
theorem top_of {h : Heap} {mg mb : PySem.Str → Option Value} (hmg : h.Ns mainGlobals mg) (hmb : h.Ns builtinsNs mb) (hb : ∀ x : PySem.Str, x ≠ "__name__" → mb x = bootBuiltins x) (hno : h.NoLimit) : Top0 h.get? mg := by
  obtain ⟨mc, hc, e⟩ := hno
  exact ⟨hmg, ⟨mb, hmb, hb⟩, ⟨mc, hc, e⟩⟩
end
end Mine
open PySem PySem.W PySem.Calls PyProof PyProof.Rows PySem.W.X PySem.W.ZRun
set_option maxRecDepth 100000 in
set_option maxHeartbeats 8000000 in
theorem PySem.Challenge.cw_pe0166_01_holds : PySem.Challenge.rw_pe0166_01.Holds := by
  w_on
  o_law
  z_head
  (case hw => w_witness2)
  k_fill
  intro w s₀ s₁ mg mb G y fa o pm cd doc dV kV ho hd hcd hD hmg hg args vals as L hpre hlay hrd hwl hlo
  z_open y L KX ZH ZN ZT
  k_behind G ho hd hcd hD hmg hpre hlay hrd hwl hlo cd
  rename_i X VV GL T B TE TW wa wo M w7 w6 ns hs hlay0 hL hr hl2 w4 w3 l vs w0 hIL ra w1 r0 hI hr2 hc1 hc2 K0 h₁ F N0
  have hG : Mine.Glb PySem.Challenge.rw_pe0166_01.row.prog w s₁.heap.get? mg Mine.adsK := by
    refine ⟨Mine.top_of T.g T.b T.builtins T.nolimit, Mine.tab_of KX T.g (d := 33) (by kernel_rfl) (by decide) rfl (by repeat (first | exact trivial | refine ⟨⟨_, _, rfl, rfl⟩, ?_⟩)) (by kernel_rfl), ?_, ?_, ?_, ?_, ?_, ?_, ?_, ?_, ?_, ?_, ?_, ?_⟩
    · exact Mine.fnA_of KX rfl (by kernel_rfl)
    · exact Mine.fnA_of KX rfl (by kernel_rfl)
    · exact Mine.fnA_of KX rfl (by kernel_rfl)
    · exact Mine.fnA_of KX rfl (by kernel_rfl)
    · exact Mine.fnA_of KX rfl (by kernel_rfl)
    · exact Mine.fnA_of KX rfl (by kernel_rfl)
    · exact Mine.fnA_of KX rfl (by kernel_rfl)
    · exact Mine.fnD_of KX rfl (by kernel_rfl) rfl rfl
    · exact Mine.fnD_of KX rfl (by kernel_rfl) rfl rfl
    · exact Mine.fnA_of KX rfl (by kernel_rfl)
    · exact Mine.fnA_of KX rfl (by kernel_rfl)
    · exact Mine.fnA_of KX rfl (by kernel_rfl)
  have hM : Mine.Nms mg Mine.adsK := Mine.nms_of KX T.g (by kernel_rfl)
  refine Mine.finish hG hM F (fun x => rfl) hIL hI (by omega) ?_
  intro f s'' hf hgens hos hbase
  cases f with
  | ret v =>
    have hv : v = .bool true := hf
    subst hv
    exact ⟨.inl ⟨_, .bool true, [], rfl, fun _ => rfl, .bool _, by kernel_rfl, fun _ => ⟨List.nodup_nil, fun _ h => nomatch h⟩⟩, hbase, hos, hgens.trans hg⟩
  | next => cases hf
  | brk => cases hf
  | cont => cases hf
