import PyProof.Rows.All
import Wide.All
import OpenK.AllK
import Wide.FinOn
import KE.LcTurns
import PySem.Sre
import PySem.Challenge.RW_mr0111_01
set_option Elab.async false

/- part HeadA -/
section
open PySem PySem.W PyProof.Rows
set_option Elab.async false
namespace Mine
set_option maxRecDepth 100000 in
set_option maxHeartbeats 8000000 in
open_top hd for PySem.Challenge.rw_mr0111_01
end Mine
end

/- part Cx -/
section
open PySem PySem.W PyProof.Rows
set_option Elab.async false
set_option maxRecDepth 100000
namespace Mine
noncomputable abbrev PG : Program := PySem.Challenge.rw_mr0111_01.row.prog
noncomputable abbrev LO : List Str := looseW hd.view_39 [Str.ofString "_twin_re_1", Str.ofString "_twin_re_2"]

/-- where a def's frame stands: k more frames may be opened -/
structure Cx (k : Nat) (w : World) (A A₀ : Around) (base h₀ : Heap) (outer : List Env) (env : Env) (L : Addr) (mean : ExcName → Option Value) (mg mb : Str → Option Value) : Prop where
  B : Below A₀ base outer h₀
  X : (hd.heap_39 w.params).In h₀
  T : Top hd.view_39 LO mean mg mb h₀
  hA : A.frames = some (env :: outer)
  hf : env.frame = some L
  hke : env.scope.kind = .function
  hd : A.depth + k ≤ 700
  hu : A.units + 4 * k ≤ 400
  hh : A.handled = none

theorem Cx.inner {k : Nat} {w : World} {A A₀ : Around} {base h₀ g : Heap} {outer : List Env} {env : Env} {L L' a : Addr} {mean : ExcName → Option Value} {mg mb : Str → Option Value} {name : Str} {scope : Scope} {cd : Value}
    (C : Cx (k + 1) w A A₀ base h₀ outer env L mean mg mb) (B' : Below A base (env :: outer) g) (X' : (hd.heap_39 w.params).In g) (T' : Top hd.view_39 LO mean mg mb g) (hk : scope.kind = .function := by rfl) :
    Cx k w (A.deeper (envOf name scope L' a cd)) A base g (env :: outer) (envOf name scope L' a cd) L' mean mg mb where
  B := B'
  X := X'
  T := T'
  hA := by rw [show (A.deeper (envOf name scope L' a cd)).frames = A.frames.map (envOf name scope L' a cd :: ·) from rfl, B'.stack]; rfl
  hf := rfl
  hke := hk
  hd := by have := C.hd; show A.depth + 1 + k ≤ 700; omega
  hu := by have := C.hu; show A.units + 3 + 4 * k ≤ 400; omega
  hh := C.hh

end Mine
end

/- part CompR -/
section
open PySem PySem.W PyProof.Rows
set_option Elab.async false
set_option maxRecDepth 100000
namespace Mine
section
variable {prog : Program} {w : World} {A : Around} {s : Shared} {h₀ : Heap} {L : Addr} {m : Str → Option Value} {env : Env}
/-- all turns of a list comprehension, by an invariant of what is collected -/
theorem compRest_all {elt : PySem.Expr} {x : Str} {scope : Scope} {cl : List (Str × Addr)} {S : List (Addr × Obj) → Prop} {P : Nat → Value → Prop} {Fin : List Value → List (Addr × Obj) → Prop} {news : List (Addr × Obj)} (hS : S news) (J : Nat → List Value → Prop) {n : Nat}
    (step : ∀ i ys v I oI C oC D m₂ h tk (E' : Value → Shared → Prop) (R : Value → Shared → Prop), i < n → J i ys → P i v → LCg.NsObj oC m₂ → m₂ x = some v → Fr h₀ L h m → News h₀ L h ((I, oI) :: (C, oC) :: (D, LCg.lst ys) :: news) →
      (∀ y h' tk', J (i + 1) (ys ++ [y]) → Fr h₀ L h' m → News h₀ L h' ((I, oI) :: (C, oC) :: (D, LCg.lst ys) :: news) → R y { s with heap := h', toks := tk' }) →
      wpAny (model prog w) A (eval elt (compEnvC scope cl C env)) R E' { s with heap := h, toks := tk })
    (fin : ∀ ys, J n ys → Fin ys news) : ∀ k i ys, i + k = n → J i ys → LCg.CompRest prog w A h₀ L m env elt x scope cl s S P Fin k i ys news := by
  intro k
  induction k with
  | zero =>
    intro i ys e hJ
    have : i = n := by omega
    subst this
    exact fin ys hJ
  | succ k ih =>
    intro i ys e hJ
    refine LCg.CompRest.succ fun v I oI C oC D m₂ h tk E' hP hC hx F N off ne => ?_
    refine step i ys v I oI C oC D m₂ h tk E' _ (by omega) hJ hP hC hx F N fun y h' tk' hJ' F' N' => ?_
    exact ⟨h', tk', news, rfl, F', N', off, hS, ih (i + 1) (ys ++ [y]) (by omega) hJ'⟩
end
theorem off1_mem {D : Addr} : ∀ {l : List (Addr × Obj)}, LCg.Off1 D l → ∀ p ∈ l, p.1 ≠ D := by
  intro l
  induction l with
  | nil => intro _ p hp; cases hp
  | cons q r ih =>
    intro h p hp
    rcases List.mem_cons.mp hp with e | e
    · rw [e]; exact h.1
    · exact ih h.2 p e
theorem allLt_mem {D : Addr} : ∀ {l : List (Addr × Obj)}, AllLt D l → ∀ p ∈ l, p.1 < D := by
  intro l
  induction l with
  | nil => intro _ p hp; cases hp
  | cons q r ih =>
    intro h p hp
    rcases List.mem_cons.mp hp with e | e
    · rw [e]; exact h.1
    · exact ih h.2 p e
end Mine
end

/- part Heap1 -/
section
/- plain: the heap's algorithms over lists -/
namespace Mine
section
variable {α : Type}
/-- _siftdown's loop: (the list, the place) at its end -/
noncomputable def sdLoop (lt : α → α → Bool) (x : α) (start : Nat) (l : List α) (pos : Nat) : List α × Nat :=
  if h : start < pos then
    match l[(pos - 1) / 2]? with
    | some p => if lt x p = true then sdLoop lt x start (l.set pos p) ((pos - 1) / 2) else (l, pos)
    | none => (l, pos)
  else (l, pos)
termination_by pos
decreasing_by omega
noncomputable def siftdown (lt : α → α → Bool) (l : List α) (start pos : Nat) : List α :=
  match l[pos]? with
  | some x => (sdLoop lt x start l pos).1.set (sdLoop lt x start l pos).2 x
  | none => l
/-- _siftup's loop: (the list, the place) at its end -/
noncomputable def suLoop (lt : α → α → Bool) (l : List α) (pos : Nat) : List α × Nat :=
  if h : 2 * pos + 1 < l.length then
    let c := if h2 : 2 * pos + 2 < l.length then (if lt l[2 * pos + 1] l[2 * pos + 2] = true then 2 * pos + 1 else 2 * pos + 2) else 2 * pos + 1
    match l[c]? with
    | some y => suLoop lt (l.set pos y) c
    | none => (l, pos)
  else (l, pos)
termination_by l.length - pos
decreasing_by
  simp only [List.length_set]
  split <;> (try split) <;> omega
noncomputable def suChild (lt : α → α → Bool) (l : List α) (pos : Nat) : Nat :=
  if h2 : 2 * pos + 2 < l.length then (if lt l[2 * pos + 1] l[2 * pos + 2] = true then 2 * pos + 1 else 2 * pos + 2) else 2 * pos + 1
theorem suLoop_end {lt : α → α → Bool} {l : List α} {pos : Nat} (h : ¬ 2 * pos + 1 < l.length) : suLoop lt l pos = (l, pos) := by
  rw [suLoop, dif_neg h]
theorem suLoop_step {lt : α → α → Bool} {l : List α} {pos c : Nat} (h : 2 * pos + 1 < l.length) (hc : suChild lt l pos = c) (hcl : c < l.length) : suLoop lt l pos = suLoop lt (l.set pos l[c]) c := by
  rw [suLoop, dif_pos h]
  subst hc
  have e : l[suChild lt l pos]? = some l[suChild lt l pos] := List.getElem?_eq_getElem hcl
  unfold suChild at e ⊢
  simp only [e]
noncomputable def siftup (lt : α → α → Bool) (l : List α) (pos : Nat) : List α :=
  match l[pos]? with
  | some x => siftdown lt ((suLoop lt l pos).1.set (suLoop lt l pos).2 x) pos (suLoop lt l pos).2
  | none => l
noncomputable def heapify (lt : α → α → Bool) (l : List α) : List α := (List.range (l.length / 2)).reverse.foldl (fun l i => siftup lt l i) l
end
end Mine
end

/- part Heap2 -/
section
/- plain: the heap's algorithms keep the items -/
namespace Mine
section
variable {α : Type} {lt : α → α → Bool}

theorem set_set_perm {l : List α} {i j : Nat} (hi : i < l.length) (hj : j < l.length) (x : α) : ((l.set i l[j]).set j x).Perm (l.set i x) := by
  by_cases e : i = j
  · subst e
    rw [List.set_set]
  · have h2 : j < (l.set i x).length := by simpa using hj
    have h1 : i < (l.set i x).length := by simpa using hi
    have h := List.set_set_perm (as := l.set i x) h1 h2
    have e2 : (l.set i x)[j] = l[j] := by simp [e]
    have e3 : (l.set i x)[i] = x := by simp
    rw [e2, e3, List.set_set] at h
    exact h

theorem sdLoop_perm (x : α) (start : Nat) : ∀ (k : Nat) (l : List α) (pos : Nat), pos ≤ k → pos < l.length →
    (sdLoop lt x start l pos).1.length = l.length ∧ (sdLoop lt x start l pos).2 < l.length ∧ ((sdLoop lt x start l pos).1.set (sdLoop lt x start l pos).2 x).Perm (l.set pos x) := by
  intro k
  induction k with
  | zero =>
    intro l pos hk hp
    have : ¬ start < pos := by omega
    rw [sdLoop, dif_neg this]
    exact ⟨rfl, hp, .refl _⟩
  | succ k ih =>
    intro l pos hk hp
    rw [sdLoop]
    by_cases h : start < pos
    · rw [dif_pos h]
      have hpp : (pos - 1) / 2 < l.length := by omega
      rw [List.getElem?_eq_getElem hpp]
      dsimp only
      by_cases c : lt x l[(pos - 1) / 2] = true
      · rw [if_pos c]
        obtain ⟨a, b, d⟩ := ih (l.set pos l[(pos - 1) / 2]) ((pos - 1) / 2) (by omega) (by rw [List.length_set]; exact hpp)
        rw [List.length_set] at a b
        exact ⟨a, b, d.trans (set_set_perm hp hpp x)⟩
      · rw [if_neg c]
        exact ⟨rfl, hp, .refl _⟩
    · rw [dif_neg h]
      exact ⟨rfl, hp, .refl _⟩

theorem siftdown_perm (l : List α) (start pos : Nat) : (siftdown lt l start pos).Perm l := by
  unfold siftdown
  by_cases hp : pos < l.length
  · rw [List.getElem?_eq_getElem hp]
    dsimp only
    have := (sdLoop_perm (lt := lt) l[pos] start pos l pos (Nat.le_refl _) hp).2.2
    rwa [List.set_getElem_self] at this
  · rw [List.getElem?_eq_none (Nat.le_of_not_lt hp)]

theorem suChild_lt {l : List α} {pos : Nat} (h : 2 * pos + 1 < l.length) : suChild lt l pos < l.length ∧ pos < suChild lt l pos := by
  unfold suChild
  split
  · split <;> omega
  · omega

theorem suLoop_perm (x : α) : ∀ (k : Nat) (l : List α) (pos : Nat), l.length - pos ≤ k → pos < l.length →
    (suLoop lt l pos).1.length = l.length ∧ (suLoop lt l pos).2 < l.length ∧ pos ≤ (suLoop lt l pos).2 ∧ ((suLoop lt l pos).1.set (suLoop lt l pos).2 x).Perm (l.set pos x) := by
  intro k
  induction k with
  | zero => intro l pos hk hp; omega
  | succ k ih =>
    intro l pos hk hp
    by_cases h : 2 * pos + 1 < l.length
    · obtain ⟨c1, c2⟩ := suChild_lt (lt := lt) h
      rw [suLoop_step h rfl c1]
      obtain ⟨a, b, e, d⟩ := ih (l.set pos l[suChild lt l pos]) (suChild lt l pos) (by rw [List.length_set]; omega) (by rw [List.length_set]; exact c1)
      rw [List.length_set] at a b
      exact ⟨a, b, by omega, d.trans (set_set_perm hp c1 x)⟩
    · rw [suLoop_end h]
      exact ⟨rfl, hp, Nat.le_refl _, .refl _⟩

theorem siftup_perm (l : List α) (pos : Nat) : (siftup lt l pos).Perm l := by
  unfold siftup
  by_cases hp : pos < l.length
  · rw [List.getElem?_eq_getElem hp]
    dsimp only
    refine (siftdown_perm _ _ _).trans ?_
    have := (suLoop_perm (lt := lt) l[pos] l.length l pos (by omega) hp).2.2.2
    rwa [List.set_getElem_self] at this
  · rw [List.getElem?_eq_none (Nat.le_of_not_lt hp)]
theorem siftup_length (l : List α) (pos : Nat) : (siftup lt l pos).length = l.length := (siftup_perm l pos).length_eq
theorem siftup_mem {l : List α} {pos : Nat} {x : α} (h : x ∈ siftup lt l pos) : x ∈ l := (siftup_perm l pos).mem_iff.mp h
theorem foldl_siftup_perm : ∀ (is : List Nat) (l : List α), (is.foldl (fun l i => siftup lt l i) l).Perm l
  | [], _ => .refl _
  | i :: r, l => (foldl_siftup_perm r (siftup lt l i)).trans (siftup_perm l i)
theorem heapify_perm (l : List α) : (heapify lt l).Perm l := foldl_siftup_perm _ _
end
end Mine
end

/- part Heap3 -/
section
/- plain: the heap's algorithms keep the order -/
namespace Mine
section
variable {α : Type}
noncomputable def LeAt (lt : α → α → Bool) (l : List α) (i c : Nat) : Prop := ∀ x y, l[i]? = some x → l[c]? = some y → lt y x = false
noncomputable def Child (c i : Nat) : Prop := c = 2 * i + 1 ∨ c = 2 * i + 2
noncomputable def HeapL (lt : α → α → Bool) (s : Nat) (l : List α) : Prop := ∀ i c, s ≤ i → Child c i → LeAt lt l i c
structure Ord (lt : α → α → Bool) : Prop where
  asymm : ∀ x y, lt x y = true → lt y x = false
  trans : ∀ x y z, lt y x = false → lt z y = false → lt z x = false
inductive Anc (s : Nat) : Nat → Prop
  | refl : Anc s s
  | child {i c : Nat} : Anc s i → Child c i → Anc s c
theorem Anc.le {s i : Nat} (h : Anc s i) : s ≤ i := by
  induction h with
  | refl => exact Nat.le_refl _
  | child _ hc ih => rcases hc with h | h <;> omega
theorem Anc.parent {s i : Nat} (h : Anc s i) (hs : s < i) : Anc s ((i - 1) / 2) := by
  cases h with
  | refl => omega
  | @child j c ha hc =>
    have : (i - 1) / 2 = j := by rcases hc with h | h <;> omega
    rw [this]; exact ha
theorem Child.parent {c i : Nat} (h : Child c i) : (c - 1) / 2 = i ∧ i < c := by rcases h with h | h <;> omega

variable {lt : α → α → Bool}
theorem Ord.irrefl (O : Ord lt) (x : α) : lt x x = false := by
  cases h : lt x x with
  | false => rfl
  | true => exact (O.asymm x x h) ▸ h.symm ▸ rfl

theorem get_set_of {l : List α} {p j : Nat} {x y : α} (h : (l.set p x)[j]? = some y) : (j = p ∧ y = x) ∨ (j ≠ p ∧ l[j]? = some y) := by
  rw [List.getElem?_set] at h
  by_cases e : p = j
  · rw [if_pos e] at h
    split at h
    · exact .inl ⟨e.symm, (Option.some.inj h).symm⟩
    · cases h
  · rw [if_neg e] at h
    exact .inr ⟨fun q => e q.symm, h⟩
theorem get_set_ne {l : List α} {p j : Nat} {x y : α} (hne : j ≠ p) (h : l[j]? = some y) : (l.set p x)[j]? = some y := by
  rw [List.getElem?_set, if_neg (fun e => hne e.symm)]; exact h
theorem get_set_eq {l : List α} {p : Nat} {x : α} (h : p < l.length) : (l.set p x)[p]? = some x := by
  rw [List.getElem?_set, if_pos rfl, if_pos h]

theorem sdLoop_heap (O : Ord lt) (x : α) (start : Nat) : ∀ (k : Nat) (l : List α) (pos : Nat), pos ≤ k → pos < l.length → Anc start pos →
    (∀ i c, start ≤ i → Child c i → c ≠ pos → LeAt lt (l.set pos x) i c) → (start < pos → ∀ c, Child c pos → LeAt lt (l.set pos x) ((pos - 1) / 2) c) →
    HeapL lt start ((sdLoop lt x start l pos).1.set (sdLoop lt x start l pos).2 x) := by
  intro k
  have base : ∀ (l : List α) (pos : Nat), ¬ start < pos → Anc start pos → (∀ i c, start ≤ i → Child c i → c ≠ pos → LeAt lt (l.set pos x) i c) → HeapL lt start (l.set pos x) := by
    intro l pos hs ha h1 i c hi hc
    have := ha.le
    exact h1 i c hi hc (by have := hc.parent; omega)
  induction k with
  | zero =>
    intro l pos hk hp ha h1 h2
    have hs : ¬ start < pos := by omega
    rw [sdLoop, dif_neg hs]
    exact base l pos hs ha h1
  | succ k ih =>
    intro l pos hk hp ha h1 h2
    rw [sdLoop]
    by_cases hs : start < pos
    · rw [dif_pos hs]
      have hpp : (pos - 1) / 2 < l.length := by omega
      rw [List.getElem?_eq_getElem hpp]
      dsimp only
      have hap := ha.parent hs
      have hpl := hap.le
      have hne : (pos - 1) / 2 ≠ pos := by omega
      have gpp : (l.set pos x)[(pos - 1) / 2]? = some l[(pos - 1) / 2] := get_set_ne hne (List.getElem?_eq_getElem hpp)
      have hcp : Child pos ((pos - 1) / 2) := by unfold Child; omega
      by_cases c : lt x l[(pos - 1) / 2] = true
      · rw [if_pos c]
        have hxp := O.asymm _ _ c
        refine ih (l.set pos l[(pos - 1) / 2]) ((pos - 1) / 2) (by omega) (by rw [List.length_set]; exact hpp) hap ?_ ?_
        · intro i c' hi hc' hcne X Y hX hY
          have pc := hc'.parent
          rcases get_set_of hX with ⟨ei, rfl⟩ | ⟨ei, hX⟩
          · -- the new place
            rcases get_set_of hY with ⟨ec, rfl⟩ | ⟨_, hY⟩
            · exact absurd ec hcne
            · rcases get_set_of hY with ⟨ec, rfl⟩ | ⟨ec, hY⟩
              · exact hxp
              · have hi' := hi; have hc2 := hc'
                rw [ei] at hi' hc2
                exact O.trans _ _ _ hxp (h1 _ c' hi' hc2 ec _ _ gpp (get_set_ne ec hY))
          · rcases get_set_of hX with ⟨ei2, rfl⟩ | ⟨ei2, hX⟩
            · rcases get_set_of hY with ⟨ec, rfl⟩ | ⟨_, hY⟩
              · exact absurd ec hcne
              · rcases get_set_of hY with ⟨ec, rfl⟩ | ⟨ec, hY⟩
                · omega
                · have hc2 := hc'
                  rw [ei2] at hc2
                  exact h2 hs c' hc2 _ _ gpp (get_set_ne ec hY)
            · rcases get_set_of hY with ⟨ec, rfl⟩ | ⟨_, hY⟩
              · exact absurd ec hcne
              · rcases get_set_of hY with ⟨ec, rfl⟩ | ⟨ec, hY⟩
                · exact absurd (by rw [ec] at pc; exact pc.1.symm) ei
                · exact h1 i c' hi hc' ec _ _ (get_set_ne ei2 hX) (get_set_ne ec hY)
        · intro hs2 c' hc' X Y hX hY
          have pc := hc'.parent
          have hq := (hap.parent hs2).le
          have hcq : Child ((pos - 1) / 2) (((pos - 1) / 2 - 1) / 2) := by unfold Child; omega
          rcases get_set_of hX with ⟨ei, _⟩ | ⟨_, hX⟩
          · omega
          · rcases get_set_of hX with ⟨ei2, _⟩ | ⟨ei2, hX⟩
            · omega
            · have hqp := h1 _ _ hq hcq hne _ _ (get_set_ne ei2 hX) gpp
              rcases get_set_of hY with ⟨ec, _⟩ | ⟨_, hY⟩
              · omega
              · rcases get_set_of hY with ⟨ec, rfl⟩ | ⟨ec, hY⟩
                · exact hqp
                · exact O.trans _ _ _ hqp (h1 _ c' hpl hc' ec _ _ gpp (get_set_ne ec hY))
      · rw [if_neg c]
        intro i c' hi hc' X Y hX hY
        by_cases ec : c' = pos
        · subst ec
          have pc := hc'.parent
          rw [← pc.1] at hX
          rw [gpp] at hX
          rw [get_set_eq hp] at hY
          cases hX; cases hY
          simpa using c
        · exact h1 i c' hi hc' ec X Y hX hY
    · rw [dif_neg hs]
      exact base l pos hs ha h1

theorem suChild_least (O : Ord lt) {l : List α} {pos : Nat} (h : 2 * pos + 1 < l.length) : Child (suChild lt l pos) pos ∧ ∀ c, Child c pos → LeAt lt l (suChild lt l pos) c := by
  unfold suChild
  by_cases h2 : 2 * pos + 2 < l.length
  · rw [dif_pos h2]
    by_cases hl : lt l[2 * pos + 1] l[2 * pos + 2] = true
    · rw [if_pos hl]
      refine ⟨.inl rfl, fun c hc X Y hX hY => ?_⟩
      rw [List.getElem?_eq_getElem h] at hX
      cases hX
      rcases hc with rfl | rfl
      · rw [List.getElem?_eq_getElem h] at hY; cases hY; exact O.irrefl _
      · rw [List.getElem?_eq_getElem h2] at hY; cases hY; exact O.asymm _ _ hl
    · rw [if_neg hl]
      refine ⟨.inr rfl, fun c hc X Y hX hY => ?_⟩
      rw [List.getElem?_eq_getElem h2] at hX
      cases hX
      rcases hc with rfl | rfl
      · rw [List.getElem?_eq_getElem h] at hY; cases hY; simpa using hl
      · rw [List.getElem?_eq_getElem h2] at hY; cases hY; exact O.irrefl _
  · rw [dif_neg h2]
    refine ⟨.inl rfl, fun c hc X Y hX hY => ?_⟩
    rw [List.getElem?_eq_getElem h] at hX
    cases hX
    rcases hc with rfl | rfl
    · rw [List.getElem?_eq_getElem h] at hY; cases hY; exact O.irrefl _
    · rw [List.getElem?_eq_none (by omega)] at hY; cases hY

theorem suLoop_heap (O : Ord lt) (start : Nat) : ∀ (k : Nat) (l : List α) (pos : Nat), l.length - pos ≤ k → pos < l.length → Anc start pos →
    (∀ i c, start ≤ i → Child c i → i ≠ pos → c ≠ pos → LeAt lt l i c) → (start < pos → ∀ c, Child c pos → LeAt lt l ((pos - 1) / 2) c) →
    Anc start (suLoop lt l pos).2 ∧ (∀ i c, start ≤ i → Child c i → i ≠ (suLoop lt l pos).2 → c ≠ (suLoop lt l pos).2 → LeAt lt (suLoop lt l pos).1 i c) ∧ ¬ 2 * (suLoop lt l pos).2 + 1 < l.length := by
  intro k
  induction k with
  | zero => intro l pos hk hp; omega
  | succ k ih =>
    intro l pos hk hp ha h1 h2
    by_cases h : 2 * pos + 1 < l.length
    · obtain ⟨c1, c2⟩ := suChild_lt (lt := lt) h
      obtain ⟨c3, c4⟩ := suChild_least O h
      rw [suLoop_step h rfl c1]
      have hal := ha.le
      have := ih (l.set pos l[suChild lt l pos]) (suChild lt l pos) (by rw [List.length_set]; omega) (by rw [List.length_set]; exact c1) (.child ha c3) ?_ ?_
      · rw [List.length_set] at this
        exact this
      · intro i c hi hc hne1 hne2 X Y hX hY
        have pc := hc.parent
        rcases get_set_of hX with ⟨ei, rfl⟩ | ⟨ei, hX⟩
        · rcases get_set_of hY with ⟨ec, rfl⟩ | ⟨ec, hY⟩
          · exact O.irrefl _
          · have hc2 := hc
            rw [ei] at hc2
            exact c4 c hc2 _ _ (List.getElem?_eq_getElem c1) hY
        · rcases get_set_of hY with ⟨ec, rfl⟩ | ⟨ec, hY⟩
          · have hs : start < pos := by omega
            have := h2 hs (suChild lt l pos) c3
            rw [show (pos - 1) / 2 = i from by rw [← ec]; exact pc.1] at this
            exact this _ _ hX (List.getElem?_eq_getElem c1)
          · exact h1 i c hi hc ei ec _ _ hX hY
      · intro hs c hc X Y hX hY
        have pc := hc.parent
        have pp := c3.parent
        rw [pp.1] at hX
        rcases get_set_of hX with ⟨_, rfl⟩ | ⟨ei, _⟩
        · rcases get_set_of hY with ⟨ec, _⟩ | ⟨ec, hY⟩
          · omega
          · exact h1 _ c (by omega) hc (by omega) ec _ _ (List.getElem?_eq_getElem c1) hY
        · exact absurd rfl ei
    · rw [suLoop_end h]
      exact ⟨ha, h1, h⟩

theorem siftup_heap (O : Ord lt) {l : List α} {pos : Nat} (hp : pos < l.length) (h : HeapL lt (pos + 1) l) : HeapL lt pos (siftup lt l pos) := by
  unfold siftup
  rw [List.getElem?_eq_getElem hp]
  dsimp only
  obtain ⟨p1, p2, p3, p4⟩ := suLoop_perm (lt := lt) l[pos] l.length l pos (by omega) hp
  obtain ⟨q1, q2, q3⟩ := suLoop_heap O pos l.length l pos (by omega) hp .refl (fun i c hi hc hne _ => h i c (by omega) hc) (fun hs => absurd hs (Nat.lt_irrefl _))
  generalize (suLoop lt l pos).1 = l' at *
  generalize (suLoop lt l pos).2 = p' at *
  have hp' : p' < l'.length := by omega
  unfold siftdown
  rw [get_set_eq hp']
  dsimp only
  have leaf : ∀ c, Child c p' → l'[c]? = none := fun c hc => List.getElem?_eq_none (by rcases hc with h | h <;> omega)
  refine sdLoop_heap O l[pos] pos p' (l'.set p' l[pos]) p' (Nat.le_refl _) (by rw [List.length_set]; exact hp') q1 ?_ ?_
  · intro i c hi hc hne X Y hX hY
    rw [List.set_set] at hX hY
    rcases get_set_of hY with ⟨ec, _⟩ | ⟨_, hY⟩
    · exact absurd ec hne
    · rcases get_set_of hX with ⟨ei, _⟩ | ⟨ei, hX⟩
      · rw [leaf c (by rw [← ei]; exact hc)] at hY; cases hY
      · exact q2 i c hi hc ei hne _ _ hX hY
  · intro _ c hc X Y hX hY
    rw [List.set_set] at hX hY
    rcases get_set_of hY with ⟨ec, _⟩ | ⟨_, hY⟩
    · have := hc.parent; omega
    · rw [leaf c hc] at hY; cases hY

theorem heap_down (O : Ord lt) : ∀ (k : Nat) (l : List α), HeapL lt k l → HeapL lt 0 ((List.range k).reverse.foldl (fun l i => siftup lt l i) l) := by
  intro k
  induction k with
  | zero => intro l h; exact h
  | succ k ih =>
    intro l h
    rw [List.range_succ, List.reverse_append]
    show HeapL lt 0 ((List.range k).reverse.foldl (fun l i => siftup lt l i) (siftup lt l k))
    apply ih
    by_cases hk : k < l.length
    · exact siftup_heap O hk h
    · have e : siftup lt l k = l := by
        unfold siftup
        rw [List.getElem?_eq_none (by omega)]
      rw [e]
      intro i c hi hc X Y hX hY
      rw [List.getElem?_eq_none (by omega)] at hX
      cases hX
theorem heapify_heap (O : Ord lt) (l : List α) : HeapL lt 0 (heapify lt l) := by
  apply heap_down O
  intro i c hi hc X Y hX hY
  rw [List.getElem?_eq_none (by rcases hc with h | h <;> omega)] at hY
  cases hY
theorem heap_root (O : Ord lt) {l : List α} {r : α} (h : HeapL lt 0 l) (hr : l[0]? = some r) : ∀ (k j : Nat) (y : α), j ≤ k → l[j]? = some y → lt y r = false := by
  intro k
  induction k with
  | zero =>
    intro j y hj hy
    have : j = 0 := by omega
    subst this
    rw [hr] at hy; cases hy; exact O.irrefl _
  | succ k ih =>
    intro j y hj hy
    by_cases e : j = 0
    · subst e; rw [hr] at hy; cases hy; exact O.irrefl _
    · have hlt : j < l.length := by
        rcases Nat.lt_or_ge j l.length with q | q
        · exact q
        · rw [List.getElem?_eq_none q] at hy; cases hy
      have hpl : (j - 1) / 2 < l.length := by omega
      have hp := List.getElem?_eq_getElem hpl
      exact O.trans _ _ _ (ih _ _ (by omega) hp) (h ((j - 1) / 2) j (Nat.zero_le _) (by unfold Child; omega) _ _ hp hy)
theorem heap_least (O : Ord lt) {l : List α} (h : HeapL lt 0 l) (h0 : 0 < l.length) {y : α} (hy : y ∈ l) : lt y l[0] = false := by
  obtain ⟨j, hj, rfl⟩ := List.getElem_of_mem hy
  exact heap_root O h (List.getElem?_eq_getElem h0) j j _ (Nat.le_refl _) (List.getElem?_eq_getElem hj)
theorem heap_set0 {l : List α} {y : α} (h : HeapL lt 0 l) : HeapL lt 1 (l.set 0 y) := by
  intro i c hi hc X Y hX hY
  have := hc.parent
  rcases get_set_of hX with ⟨e, _⟩ | ⟨_, hX⟩
  · omega
  · rcases get_set_of hY with ⟨e, _⟩ | ⟨_, hY⟩
    · omega
    · exact h i c (Nat.zero_le _) hc _ _ hX hY
theorem heap_init {l l0 : List α} {y : α} (e : l = l0 ++ [y]) (h : HeapL lt 0 l) : HeapL lt 0 l0 := by
  intro i c hi hc X Y hX hY
  have h1 : i < l0.length := by
    rcases Nat.lt_or_ge i l0.length with q | q
    · exact q
    · rw [List.getElem?_eq_none q] at hX; cases hX
  have h2 : c < l0.length := by
    rcases Nat.lt_or_ge c l0.length with q | q
    · exact q
    · rw [List.getElem?_eq_none q] at hY; cases hY
  refine h i c hi hc X Y ?_ ?_
  · rw [e, List.getElem?_append_left h1]; exact hX
  · rw [e, List.getElem?_append_left h2]; exact hY
end
end Mine
end

/- part Sort1 -/
section
/- plain: what the asking tree of a small list's sort gives for a strict total order -/
open PySem PySem.W PyProof.Rows
namespace Mine
section
variable {α β : Type} (lt : Nat → Nat → Bool) (N : Nat)
noncomputable def Yields : KasT α → (α → Prop) → Prop
  | .ret a, Q => Q a
  | .ask i j k, Q => i < N ∧ j < N ∧ Yields (k (lt i j)) Q
variable {lt N}
theorem Yields.mono {Q Q' : α → Prop} (h : ∀ a, Q a → Q' a) : ∀ (t : KasT α), Yields lt N t Q → Yields lt N t Q'
  | .ret a, y => h a y
  | .ask i j k, y => ⟨y.1, y.2.1, Yields.mono h (k (lt i j)) y.2.2⟩
theorem Yields.bind {Q : β → Prop} {f : α → KasT β} : ∀ (t : KasT α), Yields lt N t (fun a => Yields lt N (f a) Q) → Yields lt N (t.bind f) Q
  | .ret a, y => y
  | .ask i j k, y => ⟨y.1, y.2.1, Yields.bind (k (lt i j)) y.2.2⟩
theorem Yields.wp {cmp : Nat → Nat → (Bool → Shared → Prop) → Shared → Prop} {s : Shared} (hc : ∀ i j (C : Bool → Shared → Prop), i < N → j < N → C (lt i j) s → cmp i j C s) {Q : α → Shared → Prop} :
    ∀ (t : KasT α), Yields lt N t (fun a => Q a s) → t.kasWp cmp Q s
  | .ret a, y => y
  | .ask i j k, y => hc i j _ y.1 y.2.1 (Yields.wp hc (k (lt i j)) y.2.2)

/-- a strict total order on the numbers below N -/
structure Tot (lt : Nat → Nat → Bool) (N : Nat) : Prop where
  asymm : ∀ x y, x < N → y < N → lt x y = true → lt y x = false
  trans : ∀ x y z, x < N → y < N → z < N → lt y x = false → lt z y = false → lt z x = false
  total : ∀ x y, x < N → y < N → x ≠ y → lt x y = false → lt y x = true

noncomputable def Pm (N : Nat) (p : Array Nat) : Prop := p.toList.Perm (List.range N)
theorem Pm.size {p : Array Nat} (h : Pm N p) : p.size = N := by
  have := h.length_eq
  simpa using this
theorem Pm.below {p : Array Nat} (h : Pm N p) (hN : 0 < N) (i : Nat) : p.getD i 0 < N := by
  by_cases hi : i < p.size
  · have e : p.getD i 0 = p[i] := by simp [Array.getD, hi]
    rw [e]
    have : p[i] ∈ p.toList := by simp
    exact List.mem_range.1 (h.subset this)
  · have e : p.getD i 0 = 0 := by simp [Array.getD, hi]
    rw [e]; exact hN
theorem Pm.inj {p : Array Nat} (h : Pm N p) {i j : Nat} (hi : i < N) (hj : j < N) (hne : i ≠ j) : p.getD i 0 ≠ p.getD j 0 := by
  have hs := h.size
  have ei : p.getD i 0 = p[i]'(by omega) := by simp [Array.getD, hs, hi]
  have ej : p.getD j 0 = p[j]'(by omega) := by simp [Array.getD, hs, hj]
  have nd : p.toList.Nodup := h.nodup_iff.2 List.nodup_range
  rw [ei, ej]
  intro e
  have := (List.getElem_inj (h₀ := by simp; omega) (h₁ := by simp; omega) nd).1 (show p.toList[i]'(by simp; omega) = p.toList[j]'(by simp; omega) by simpa using e)
  exact hne this
theorem Pm.rev {p : Array Nat} (h : Pm N p) (i j : Nat) : Pm N (kas_rev p i j) := (mirror_perm p i j ((j - i) / 2)).toList.trans h
theorem Pm.bubble {p : Array Nat} (h : Pm N p) (i j : Nat) : Pm N (bubble p i j) := (bubble_perm p i j).toList.trans h
theorem rev_get {p : Array Nat} {n : Nat} (hn : n ≤ p.size) (k : Nat) : (kas_rev p 0 n).getD k 0 = if k < n then p.getD (n - 1 - k) 0 else p.getD k 0 := by
  have := getElem?_mirror_all (i := 0) hn k
  unfold kas_rev
  rw [Array.getD_eq_getD_getElem?, this]
  by_cases h : k < n
  · rw [if_pos ⟨Nat.zero_le _, h⟩, if_pos h, Array.getD_eq_getD_getElem?]
    rw [Nat.zero_add]
  · rw [if_neg (fun c => h c.2), if_neg h, Array.getD_eq_getD_getElem?]
theorem bubble_get {p : Array Nat} {k l : Nat} (hk : k < p.size) (hl : l ≤ k) (i : Nat) : (bubble p k (k - l)).getD i 0 = if i = l then p.getD k 0 else if l < i ∧ i ≤ k then p.getD (i - 1) 0 else p.getD i 0 := by
  have := getElem?_bubble hk (k - l) (by omega) i
  rw [Array.getD_eq_getD_getElem?, this, show k - (k - l) = l by omega]
  by_cases h1 : i = l
  · rw [if_pos h1, if_pos h1, Array.getD_eq_getD_getElem?]
  · rw [if_neg h1, if_neg h1]
    by_cases h2 : l < i ∧ i ≤ k
    · rw [if_pos h2, if_pos h2, Array.getD_eq_getD_getElem?]
    · rw [if_neg h2, if_neg h2, Array.getD_eq_getD_getElem?]

/-- the first m are in order -/
noncomputable def Srt (lt : Nat → Nat → Bool) (p : Array Nat) (m : Nat) : Prop := ∀ i, i + 1 < m → lt (p.getD (i + 1) 0) (p.getD i 0) = false
noncomputable def Dsc (lt : Nat → Nat → Bool) (p : Array Nat) (m : Nat) : Prop := ∀ i, i + 1 < m → lt (p.getD (i + 1) 0) (p.getD i 0) = true
theorem Tot.irrefl (T : Tot lt N) {x : Nat} (hx : x < N) : lt x x = false := by
  cases h : lt x x with
  | false => rfl
  | true => exact (T.asymm x x hx hx h).symm.trans h |>.symm
theorem Srt.le (T : Tot lt N) {p : Array Nat} (hp : Pm N p) (hN : 0 < N) {m : Nat} (h : Srt lt p m) : ∀ (d i : Nat), i + d < m → lt (p.getD (i + d) 0) (p.getD i 0) = false := by
  intro d
  induction d with
  | zero => intro i _; exact T.irrefl (hp.below hN i)
  | succ d ih => intro i hi; exact T.trans _ (p.getD (i + d) 0) _ (hp.below hN _) (hp.below hN _) (hp.below hN _) (ih i (by omega)) (h (i + d) hi)

theorem asc_yields (hN : 0 < N) {p : Array Nat} (hp : Pm N p) : ∀ (f n : Nat), 0 < n → Srt lt p n → Yields lt N (kas_asc p f n) (fun m => n ≤ m ∧ m ≤ n + f ∧ Srt lt p m ∧ (m < n + f → lt (p.getD m 0) (p.getD (m - 1) 0) = true)) := by
  intro f
  induction f with
  | zero => intro n _ h; exact ⟨Nat.le_refl _, Nat.le_refl _, h, fun h => absurd h (Nat.lt_irrefl _)⟩
  | succ f ih =>
    intro n h0 h
    refine ⟨hp.below hN _, hp.below hN _, ?_⟩
    dsimp only
    by_cases c : lt (p.getD n 0) (p.getD (n - 1) 0) = true
    · rw [if_pos c]
      exact ⟨Nat.le_refl _, by omega, h, fun _ => c⟩
    · rw [if_neg c]
      refine Yields.mono (fun m hm => ?_) _ (ih (n + 1) (by omega) ?_)
      · obtain ⟨a, b, c, d⟩ := hm
        exact ⟨by omega, by omega, c, fun h => d (by omega)⟩
      · intro i hi
        by_cases e : i + 1 < n
        · exact h i e
        · have : i = n - 1 := by omega
          subst this
          rw [show n - 1 + 1 = n by omega]
          simpa using c
theorem desc_yields (T : Tot lt N) (hN : 0 < N) {p : Array Nat} (hp : Pm N p) : ∀ (f n : Nat), 0 < n → n + f ≤ N → Dsc lt p n → Yields lt N (kas_desc f p n 0) (fun r => r.1 = p ∧ r.2.2 = 0 ∧ n ≤ r.2.1 ∧ r.2.1 ≤ n + f ∧ Dsc lt p r.2.1) := by
  intro f
  induction f with
  | zero => intro n _ _ h; exact ⟨rfl, rfl, Nat.le_refl _, Nat.le_refl _, h⟩
  | succ f ih =>
    intro n h0 hf h
    refine ⟨hp.below hN _, hp.below hN _, ?_⟩
    dsimp only
    by_cases c : lt (p.getD n 0) (p.getD (n - 1) 0) = true
    · rw [if_pos c, if_neg (Nat.lt_irrefl _)]
      refine Yields.mono (fun m hm => ?_) _ (ih (n + 1) (by omega) (by omega) ?_)
      · obtain ⟨a, b, c, d, e⟩ := hm
        exact ⟨a, b, by omega, by omega, e⟩
      · intro i hi
        by_cases e : i + 1 < n
        · exact h i e
        · have : i = n - 1 := by omega
          subst this
          rw [show n - 1 + 1 = n by omega]
          exact c
    · rw [if_neg c]
      refine ⟨hp.below hN _, hp.below hN _, ?_⟩
      dsimp only
      rw [if_pos (T.total _ _ (hp.below hN _) (hp.below hN _) (hp.inj (by omega) (by omega) (by omega)) (by simpa using c))]
      exact ⟨rfl, rfl, Nat.le_refl _, by show n ≤ n + (f + 1); omega, h⟩

noncomputable def Good1 (lt : Nat → Nat → Bool) (N : Nat) (r : Nat × Array Nat) : Prop := 0 < r.1 ∧ r.1 ≤ N ∧ Pm N r.2 ∧ Srt lt r.2 r.1
theorem count_yields (T : Tot lt N) (hN : 0 < N) {p : Array Nat} (hp : Pm N p) : Yields lt N (kas_count N p) (Good1 lt N) := by
  unfold kas_count
  refine Yields.bind _ (Yields.mono (fun m hm => ?_) _ (asc_yields hN hp (N - 1) 1 (by omega) (fun i hi => by omega)))
  obtain ⟨a, b, c, d⟩ := hm
  by_cases e : (m == N) = true
  · rw [if_pos e]
    exact ⟨by omega, by omega, hp, c⟩
  · rw [if_neg e]
    have e' : m ≠ N := by simpa using e
    by_cases g : m > 1
    · rw [if_pos g]
      refine ⟨hp.below hN _, hp.below hN _, ?_⟩
      dsimp only
      have := c.le T hp hN (m - 1) 0 (by omega)
      rw [Nat.zero_add] at this
      rw [if_pos (T.total _ _ (hp.below hN _) (hp.below hN _) (hp.inj (by omega) (by omega) (by omega)) this)]
      exact ⟨by omega, by omega, hp, c⟩
    · rw [if_neg g]
      have hm : m = 1 := by omega
      subst hm
      have d0 := d (by omega)
      unfold kas_descPart
      refine Yields.bind _ (Yields.mono (fun r hr => ?_) _ (desc_yields T hN hp (N - (1 + 1)) (1 + 1) (by omega) (by omega) (fun i hi => ?_)))
      · obtain ⟨r1, r2, r3, r4, r5⟩ := hr
        obtain ⟨p', n', q'⟩ := r
        dsimp only at r1 r2 r3 r4 r5
        subst r1 r2
        dsimp only
        rw [if_neg (Nat.lt_irrefl _)]
        unfold kas_tail3
        refine Yields.bind _ (Yields.mono (fun k hk => ?_) _ (asc_yields hN (hp.rev 0 n') (N - n') n' (by omega) ?_))
        · obtain ⟨k1, k2, k3, k4⟩ := hk
          exact ⟨by show 0 < k; omega, by show k ≤ N; omega, hp.rev 0 n', k3⟩
        · intro i hi
          rw [rev_get (by rw [hp.size]; omega), rev_get (by rw [hp.size]; omega), if_pos hi, if_pos (by omega)]
          refine T.asymm _ _ (hp.below hN _) (hp.below hN _) ?_
          have := r5 (n' - 1 - (i + 1)) (by omega)
          rw [show n' - 1 - (i + 1) + 1 = n' - 1 - i by omega] at this
          exact this
      · have : i = 0 := by omega
        subst this
        exact d0
theorem place_yields (T : Tot lt N) (hN : 0 < N) {p : Array Nat} (hp : Pm N p) {k : Nat} (hs : Srt lt p k) : ∀ (f l r : Nat), r - l ≤ f → l ≤ r → r ≤ k →
    (∀ i, i < l → lt (p.getD k 0) (p.getD i 0) = false) → (∀ i, r ≤ i → i < k → lt (p.getD k 0) (p.getD i 0) = true) →
    Yields lt N (kas_place p k f l r) (fun m => m ≤ k ∧ (∀ i, i < m → lt (p.getD k 0) (p.getD i 0) = false) ∧ (∀ i, m ≤ i → i < k → lt (p.getD k 0) (p.getD i 0) = true)) := by
  intro f
  induction f with
  | zero =>
    intro l r h1 h2 h3 h4 h5
    have : l = r := by omega
    subst this
    exact ⟨h3, h4, h5⟩
  | succ f ih =>
    intro l r h1 h2 h3 h4 h5
    unfold kas_place
    by_cases g : l ≥ r
    · rw [if_pos g]
      have : l = r := by omega
      subst this
      exact ⟨h3, h4, h5⟩
    · rw [if_neg g]
      refine ⟨hp.below hN _, hp.below hN _, ?_⟩
      dsimp only
      by_cases c : lt (p.getD k 0) (p.getD ((l + r) / 2) 0) = true
      · rw [if_pos c]
        refine ih l ((l + r) / 2) (by omega) (by omega) (by omega) h4 (fun i hi hk => ?_)
        cases e : lt (p.getD k 0) (p.getD i 0) with
        | true => rfl
        | false =>
          have := hs.le T hp hN (i - (l + r) / 2) ((l + r) / 2) (by omega)
          rw [show (l + r) / 2 + (i - (l + r) / 2) = i by omega] at this
          rw [T.trans _ _ _ (hp.below hN _) (hp.below hN _) (hp.below hN _) this e] at c
          cases c
      · rw [if_neg c]
        refine ih ((l + r) / 2 + 1) r (by omega) (by omega) h3 (fun i hi => ?_) h5
        have := hs.le T hp hN ((l + r) / 2 - i) i (by omega)
        rw [show i + ((l + r) / 2 - i) = (l + r) / 2 by omega] at this
        exact T.trans _ _ _ (hp.below hN _) (hp.below hN _) (hp.below hN _) this (by simpa using c)
theorem bin_yields (T : Tot lt N) (hN : 0 < N) : ∀ (f : Nat) (p : Array Nat) (k : Nat), Pm N p → Srt lt p k → k + f ≤ N → Yields lt N (kas_bin f p k) (fun p' => Pm N p' ∧ Srt lt p' (k + f)) := by
  intro f
  induction f with
  | zero => intro p k hp hs _; exact ⟨hp, hs⟩
  | succ f ih =>
    intro p k hp hs hk
    unfold kas_bin
    refine Yields.bind _ (Yields.mono (fun l hl => ?_) _ (place_yields T hN hp hs k 0 k (by omega) (by omega) (Nat.le_refl _) (fun i hi => by omega) (fun i h1 h2 => by omega)))
    obtain ⟨l1, l2, l3⟩ := hl
    refine Yields.mono (fun p' h => ?_) _ (ih (bubble p k (k - l)) (k + 1) (hp.bubble _ _) ?_ (by omega))
    · rw [show k + 1 + f = k + (f + 1) by omega] at h; exact h
    · intro i hi
      rw [bubble_get (by rw [hp.size]; omega) l1, bubble_get (by rw [hp.size]; omega) l1]
      by_cases e1 : i + 1 = l
      · rw [if_pos e1, if_neg (by omega), if_neg (by omega)]
        exact l2 i (by omega)
      · rw [if_neg e1]
        by_cases e2 : i = l
        · rw [if_pos e2, if_pos (by omega)]
          exact T.asymm _ _ (hp.below hN _) (hp.below hN _) (l3 _ (by omega) (by omega))
        · rw [if_neg e2]
          by_cases e3 : l < i + 1
          · rw [if_pos (by omega), if_pos (by omega)]
            have := hs (i - 1) (by omega)
            rw [show i - 1 + 1 = i by omega] at this
            exact this
          · rw [if_neg (by omega), if_neg (by omega)]
            exact hs i (by omega)
theorem sort_yields (T : Tot lt N) (hN : 0 < N) : Yields lt N (kas_sort N) (fun p => Pm N p ∧ Srt lt p N) := by
  unfold kas_sort
  refine Yields.bind _ (Yields.mono (fun r hr => ?_) _ (count_yields T hN (by unfold Pm; simp)))
  obtain ⟨a, b, c, d⟩ := hr
  by_cases g : r.1 < N
  · rw [if_pos g]
    refine Yields.mono (fun p h => ?_) _ (bin_yields T hN (N - max r.1 1) r.2 (max r.1 1) c ?_ (by omega))
    · rw [show max r.1 1 + (N - max r.1 1) = N by omega] at h; exact h
    · rw [show max r.1 1 = r.1 by omega]; exact d
  · rw [if_neg g]
    have : r.1 = N := by omega
    exact ⟨c, this ▸ d⟩
end
end Mine
end

/- part Led -/
section
open PySem PySem.W PyProof.Rows
set_option Elab.async false
set_option maxRecDepth 100000
namespace Mine

/-- the ledger with the object at d replaced -/
noncomputable def setN (d : Addr) (o : Obj) (news : List (Addr × Obj)) : List (Addr × Obj) := news.map fun p => if p.1 = d then (d, o) else p

theorem mem_setN_self {d : Addr} {o₀ o : Obj} {news : List (Addr × Obj)} (h : (d, o₀) ∈ news) : (d, o) ∈ setN d o news :=
  List.mem_map.mpr ⟨(d, o₀), h, by simp⟩
theorem mem_setN_ne {p : Addr × Obj} {d : Addr} {o : Obj} {news : List (Addr × Obj)} (h : p ∈ news) (hne : p.1 ≠ d) : p ∈ setN d o news :=
  List.mem_map.mpr ⟨p, h, by simp [hne]⟩
theorem setN_setN {d : Addr} {o o' : Obj} {news : List (Addr × Obj)} : setN d o' (setN d o news) = setN d o' news := by
  unfold setN
  rw [List.map_map]
  apply List.map_congr_left
  intro p _
  by_cases h : p.1 = d <;> simp [h]
theorem news_ne {h₀ h : Heap} {L a b : Addr} {o o' : Obj} {news : List (Addr × Obj)} (N : News h₀ L h news) (ha : (a, o) ∈ news) (hb : (b, o') ∈ news) (hne : o ≠ o') : a ≠ b := by
  intro e
  subst e
  have h1 := (N _ ha).1
  have h2 := (N _ hb).1
  rw [h1] at h2
  exact hne (Option.some.inj h2)
theorem news_same {h₀ h : Heap} {L a : Addr} {o o' : Obj} {news : List (Addr × Obj)} (N : News h₀ L h news) (ha : (a, o) ∈ news) (hb : (a, o') ∈ news) : o = o' := by
  have h1 := (N _ ha).1
  have h2 := (N _ hb).1
  rw [h1] at h2
  exact Option.some.inj h2
theorem news_setN {h₀ h h' : Heap} {L d : Addr} {m : Str → Option Value} {o₀ o : Obj} {news : List (Addr × Obj)} (F : Fr h₀ L h m) (N : News h₀ L h news) (hm : (d, o₀) ∈ news)
    (hs : Heap.SameBut d h h') (ho : h'.get? d = some o) : Fr h₀ L h' m ∧ News h₀ L h' (setN d o news) := by
  have D := N _ hm
  refine ⟨F.change hs D.2.1 D.2.2, fun p hp => ?_⟩
  obtain ⟨q, hq, rfl⟩ := List.mem_map.mp hp
  by_cases e : q.1 = d
  · simp only [e, if_true]
    exact ⟨ho, D.2⟩
  · simp only [e, if_false]
    exact ⟨(hs.2 q.1 e).trans (N q hq).1, (N q hq).2⟩
theorem setN_id {h₀ h : Heap} {L d : Addr} {o : Obj} {news : List (Addr × Obj)} (N : News h₀ L h news) (hm : (d, o) ∈ news) : setN d o news = news := by
  unfold setN
  conv => rhs; rw [← List.map_id news]
  apply List.map_congr_left
  intro p hp
  by_cases e : p.1 = d
  · obtain ⟨a, o'⟩ := p
    simp only at e
    subst e
    simp [news_same N hm hp]
  · simp [e]
theorem setN_append {d : Addr} {o : Obj} {a b : List (Addr × Obj)} : setN d o (a ++ b) = setN d o a ++ setN d o b := by unfold setN; simp
theorem setN_off {d : Addr} {o : Obj} {a : List (Addr × Obj)} (h : ∀ p ∈ a, p.1 ≠ d) : setN d o a = a := by
  unfold setN
  conv => rhs; rw [← List.map_id a]
  apply List.map_congr_left
  intro p hp
  simp [h p hp]
theorem setN_adr {d : Addr} {o : Obj} {a : List (Addr × Obj)} {p : Addr × Obj} (h : p ∈ setN d o a) : ∃ q ∈ a, q.1 = p.1 := by
  obtain ⟨q, hq, rfl⟩ := List.mem_map.mp h
  refine ⟨q, hq, ?_⟩
  by_cases e : q.1 = d <;> simp [e]
theorem adr_setN {d : Addr} {o : Obj} {a : List (Addr × Obj)} {q : Addr × Obj} (h : q ∈ a) : ∃ p ∈ setN d o a, p.1 = q.1 := by
  refine ⟨_, List.mem_map.mpr ⟨q, h, rfl⟩, ?_⟩
  by_cases e : q.1 = d <;> simp [e]
theorem fr_say {h₀ h : Heap} {L : Addr} {m : Str → Option Value} {x : Str} {v : Value} (F : Fr h₀ L h m) (e : m x = some v) : Fr h₀ L h (fun y => if y = x then some v else m y) := by
  have : (fun y => if y = x then some v else m y) = m := by
    funext y
    by_cases q : y = x
    · subst q; simp [e]
    · simp [q]
  rw [this]; exact F

theorem iteB {b : Bool} {P Q : Prop} (h1 : b = true → P) (h2 : b = false → Q) : if b = true then P else Q := by
  cases b with
  | true => rw [if_pos rfl]; exact h1 rfl
  | false => rw [if_neg (by simp)]; exact h2 rfl
noncomputable def AllSay (m : Str → Option Value) : List (Str × Value) → Prop
  | [] => True
  | p :: r => m p.1 = some p.2 ∧ AllSay m r
noncomputable def putM (l : List (Str × Value)) (m : Str → Option Value) : Str → Option Value := fun y => match l.lookup y with
  | some v => some v
  | none => m y
theorem putM_eq {m : Str → Option Value} : ∀ {l : List (Str × Value)}, AllSay m l → putM l m = m
  | [], _ => rfl
  | (x, v) :: r, h => by
    have ih := putM_eq h.2
    funext y
    unfold putM
    rw [List.lookup_cons]
    by_cases q : y = x
    · subst q
      simp only [beq_self_eq_true]
      exact h.1.symm
    · have e : (y == x) = false := by simp [q]
      simp only [e]
      exact congrFun ih y
theorem fr_says {h₀ h : Heap} {L : Addr} {m : Str → Option Value} {l : List (Str × Value)} (F : Fr h₀ L h m) (e : AllSay m l) : Fr h₀ L h (putM l m) := by rw [putM_eq e]; exact F

/-- a pair (text, place) at an address -/
structure It where
  a : Addr
  q : Str
  t : Tok
  p : Int
  u : Tok

abbrev pairO (q : Str) (t : Tok) (p : Int) (u : Tok) : Obj := { cls := .type "tuple", data := .seq #[.str q t, .int p u] }
noncomputable def It.o (x : It) : Obj := pairO x.q x.t x.p x.u
noncomputable def It.v (x : It) : Value := .ref x.a
/-- Python's < of such pairs -/
noncomputable def ltP (q q' : Str) (p p' : Int) : Bool := if (q == q') = true then decide (p < p') else decide (q.cps.toList < q'.cps.toList)
noncomputable def It.lt (x y : It) : Bool := ltP x.q y.q x.p y.p
noncomputable def InN (news : List (Addr × Obj)) (l : List It) : Prop := ∀ x ∈ l, (x.a, x.o) ∈ news
theorem InN.setN {h₀ h : Heap} {L d : Addr} {o : Obj} {vs : Array Value} {n : Nat} {news : List (Addr × Obj)} {l : List It} (N : News h₀ L h news) (hm : (d, listOf vs n) ∈ news) (h : InN news l) : InN (setN d o news) l :=
  fun x hx => mem_setN_ne (h x hx) (news_ne N (h x hx) hm (by unfold It.o pairO W.listOf; simp))

section
variable {prog : Program} {w : World} {A : Around} {E : Value → Shared → Prop} {s : Shared} {h₀ : Heap} {L D : Addr} {m : Str → Option Value} {news : List (Addr × Obj)} {vs : List Value} {n : Nat} {k : Int} {t u : Tok}

theorem set_N {v : Value} {Q : Unit → Shared → Prop} (F : Fr h₀ L s.heap m) (N : News h₀ L s.heap news) (hm : (D, listOf vs.toArray n) ∈ news) (h0 : 0 ≤ k) (h1 : k < vs.length) (hfit : k < 2 ^ 63)
    (h : ∀ h', Fr h₀ L h' m → News h₀ L h' (setN D (listOf (vs.set k.toNat v).toArray n) news) → Q () { s with heap := h' }) :
    wpAny (model prog w) A (setItem (.ref D) (.int k t) v) Q E s := by
  have z := N _ hm
  refine ki_setAt z.1 h0 hfit (by simpa using h1) ?_
  have ho : (s.heap.update D (Obj.mapSeq (·.setIfInBounds k.toNat v))).get? D = some (listOf (vs.set k.toNat v).toArray n) := by
    have e : Obj.mapSeq (·.setIfInBounds k.toNat v) (listOf vs.toArray n) = listOf (vs.set k.toNat v).toArray n := by
      simp [Obj.mapSeq]
    rw [← e]
    exact Heap.get?_update_self _ z.1 rfl
  obtain ⟨F', N'⟩ := news_setN F N hm (Heap.SameBut.update ..) ho
  exact h _ F' N'
theorem get_N {v : Value} {Q : Value → Shared → Prop} (N : News h₀ L s.heap news) (hm : (D, listOf vs.toArray n) ∈ news) (h0 : 0 ≤ k) (hfit : k < 2 ^ 63) (hx : vs[k.toNat]? = some v) (h : Q v s) :
    wpAny (model prog w) A (getItem (.ref D) (.int k u)) Q E s := wpAny_getItem_list (PySem.IsL.isList (n := n) (N _ hm).1) h0 hfit (by simpa using hx) h
theorem sub_N {value slice : PySem.Expr} {v : Value} {Q : Value → Shared → Prop} (N : News h₀ L s.heap news) (hm : (D, listOf vs.toArray n) ∈ news) (h0 : 0 ≤ k) (hfit : k < 2 ^ 63) (hx : vs[k.toNat]? = some v) (h : Q v s)
    (hs : subscripted slice false (.ref D) (.int k u) = operate [.ref D, .int k u] (getItem (.ref D) (.int k u)) := by with_unfolding_all rfl) :
    wpAny (model prog w) A (subscriptTail value slice (.ref D) (.int k u)) Q E s :=
  tail_any (PySem.IsL.isList (n := n) (N _ hm).1).typeIs slot_list_getitem.lookup (get_N N hm h0 hfit hx h) hs

theorem tuple_lt_tree {a b : Addr} {x y : Str} {t u t' u' : Tok} {p p' : Int} {P : PySem.Fin → Shared → Prop} (ha : s.heap.get? a = some (pairO x t p u)) (hb : s.heap.get? b = some (pairO y t' p' u'))
    (h : P (.done (.ret (.bool (ltP x y p p')))) s) : wpAny (model prog w) A (Builtin.«tuple.__lt__» ⟨[.ref a, .ref b], []⟩) P E s := by
  have hTb : s.TypeIs (.ref b) "tuple" := ⟨_, hb, rfl⟩
  show wpAny _ _ (isInstance (.ref b) (.type "tuple") >>= _) _ _ s
  refine wpAny_bind (wpAny_isInstance hTb isSubtype_tuple_tuple ?_)
  simp only [Bool.not_true, Bool.false_eq_true, if_false]
  refine wpAny_bind (wpAny_tupleItemsOf ha rfl ?_)
  refine wpAny_bind (wpAny_tupleItemsOf hb rfl ?_)
  refine wpAny_bind ?_
  simp only [List.zip_cons_cons, List.zip_nil_left, List.forIn_cons, List.forIn_nil]
  refine wpAny_bind (wpAny_bind (wpAny_eqBool_str ?_))
  unfold ltP at h
  by_cases e : x = y
  · subst e
    simp only [beq_self_eq_true, if_true] at h
    simp only [decide_true, Bool.not_true, Bool.false_eq_true, if_false]
    refine wpAny_pure ?_
    refine wpAny_bind (wpAny_bind (wpAny_eqBool_int ?_))
    by_cases e2 : p = p'
    · subst e2
      simp only [beq_self_eq_true, Bool.not_true, Bool.false_eq_true, if_false]
      refine wpAny_pure (wpAny_pure ?_)
      refine wpAny_pure ?_
      have e3 : decide (p < p) = false := by simp
      rw [e3] at h
      exact h
    · have e3 : (p == p') = false := by simp [e2]
      rw [e3]
      simp only [Bool.not_false, if_true]
      refine wpAny_bind (wpAny_rule (wpAny_bind ?_))
      refine wpAny_lt_int ?_
      exact wpAny_bind (wpAny_pure (wpAny_pure (wpAny_pure (wpAny_pure h))))
  · have e1 : (x == y) = false := by simp [e]
    rw [e1] at h
    simp only [Bool.false_eq_true, if_false] at h
    have e2 : decide (x = y) = false := by simp [e]
    rw [e2]
    simp only [Bool.not_false, if_true]
    refine wpAny_bind (wpAny_rule (wpAny_bind ?_))
    refine PyProof.Rows.lt_str ?_
    exact wpAny_bind (wpAny_pure (wpAny_pure (wpAny_pure (wpAny_pure h))))

theorem lt_pairs {a b : Addr} {x y : Str} {t u t' u' : Tok} {p p' : Int} {Q : Value → Shared → Prop} (hu : A.units < cLine) (ha : s.heap.get? a = some (pairO x t p u)) (hb : s.heap.get? b = some (pairO y t' p' u'))
    (h : Q (.bool (ltP x y p p')) s) : wpAny (model prog w) A (compareOp .Lt (.ref a) (.ref b)) Q E s := by
  show wpAny _ _ (richCompare .Lt (.ref a) (.ref b)) Q E s
  exact wpAny_richCompare_same_or (op := .Lt) (T := "tuple") ⟨_, ha, rfl⟩ ⟨_, hb, rfl⟩ F.slot_tuple_lt
    (wpAny_call_entry F.slot_tuple_lt ⟨_, ha, rfl⟩ F.entry_tuple_lt (tuple_lt_tree ha hb ⟨_, rfl, by simp, h⟩) (F.args_tuple_lt_2 _ _)) (.inr hu)
theorem len_N {Q : Value → Shared → Prop} (N : News h₀ L s.heap news) (hm : (D, W.listOf vs.toArray n) ∈ news) (hz : vs.length ≤ 2 ^ 20)
    (h : Q (.int vs.length (s.toks + 1)) { s with toks := s.toks + 1 + 1 }) : wpAny (model prog w) A (call (.builtin "len") [.ref D]) Q E s :=
  len_list (PySem.IsL.isList (n := n) (N _ hm).1) (by rw [List.size_toArray]; omega) (by rw [List.size_toArray]; exact h)
theorem lt_its {x y : It} {Q : Value → Shared → Prop} (hu : A.units < cLine) (N : News h₀ L s.heap news) (hx : (x.a, x.o) ∈ news) (hy : (y.a, y.o) ∈ news)
    (h : Q (.bool (x.lt y)) s) : wpAny (model prog w) A (compareOp .Lt x.v y.v) Q E s := lt_pairs hu (N _ hx).1 (N _ hy).1 h
end
theorem map_get {l : List It} {k : Nat} (h : k < l.length) : (l.map It.v)[(k : Int).toNat]? = some l[k].v := by simp [h]
theorem map_getI {l : List It} {k : Int} {j : Nat} (e : k = j) (h : j < l.length) : (l.map It.v)[k.toNat]? = some l[j].v := by subst e; exact map_get h
end Mine
end

/- part ListN -/
section
open PySem PySem.W PyProof.Rows
set_option Elab.async false
set_option maxRecDepth 100000
namespace Mine
section
variable {prog : Program} {w : World} {A : Around} {E : Value → Shared → Prop} {s : Shared} {h₀ : Heap} {L D : Addr} {m : Str → Option Value} {news : List (Addr × Obj)} {vs : List Value} {n : Nat} {t u : Tok}

theorem news_seq {f : Array Value → Array Value} {ws : List Value} (F : Fr h₀ L s.heap m) (N : News h₀ L s.heap news) (hm : (D, W.listOf vs.toArray n) ∈ news) (he : f vs.toArray = ws.toArray) (hs : ws.length ≠ vs.length) :
    Fr h₀ L (s.heap.update D (Obj.mapSeq f)) m ∧ News h₀ L (s.heap.update D (Obj.mapSeq f)) (setN D (W.listOf ws.toArray (n + 1)) news) := by
  refine news_setN F N hm (Heap.SameBut.update ..) ?_
  have q := PySem.IsL.update (N _ hm).1 f
  rw [he, if_neg (by simpa using hs)] at q
  exact q

theorem pop_N {ws : List Value} {y : Value} {Q : Value → Shared → Prop} (F : Fr h₀ L s.heap m) (N : News h₀ L s.heap news) (hm : (D, W.listOf vs.toArray n) ∈ news) (e : vs = ws ++ [y]) (hz : vs.length ≤ 2 ^ 20)
    (h : ∀ h', Fr h₀ L h' m → News h₀ L h' (setN D (W.listOf ws.toArray (n + 1)) news) → Q y { s with heap := h' }) : wpAny (model prog w) A (call (.builtin "list.pop") [.ref D]) Q E s := by
  subst e
  have z := N _ hm
  have hz' : (ws ++ [y]).toArray.size ≤ sizeLine := by rw [List.size_toArray, sizeLine_eq]; omega
  have hk : (ws ++ [y]).toArray.size - 1 = ws.length := by rw [List.size_toArray, List.length_append]; rfl
  have hy : (ws ++ [y]).toArray[(ws ++ [y]).toArray.size - 1]? = some y := by rw [hk]; simp
  have e1 : (ws ++ [y]).toArray.eraseIdxIfInBounds ((ws ++ [y]).toArray.size - 1) = ws.toArray := by rw [hk, kl_erase, List.append_nil]
  obtain ⟨F', N'⟩ := news_seq (f := fun xs => xs.eraseIdxIfInBounds ((ws ++ [y]).toArray.size - 1)) F N hm e1 (by simp)
  exact call_meets PySem.F.slot_list_pop ⟨_, z.1, rfl⟩ PySem.F.entry_list_pop (PySem.F.args_list_pop_1 _) (PySem.MeetsSeq.list_pop_last D _ n y hy hz') ⟨z.1, h _ F' N'⟩

theorem pop0_N {ws : List Value} {y : Value} {Q : Value → Shared → Prop} (F : Fr h₀ L s.heap m) (N : News h₀ L s.heap news) (hm : (D, W.listOf vs.toArray n) ∈ news) (e : vs = y :: ws) (hz : vs.length ≤ 2 ^ 20)
    (h : ∀ h', Fr h₀ L h' m → News h₀ L h' (setN D (W.listOf ws.toArray (n + 1)) news) → Q y { s with heap := h' }) : wpAny (model prog w) A (call (.builtin "list.pop") [.ref D, .int 0 u]) Q E s := by
  subst e
  have z := N _ hm
  have hz' : (y :: ws).toArray.size ≤ sizeLine := by rw [List.size_toArray, sizeLine_eq]; omega
  have hy : (y :: ws).toArray[0]? = some y := by simp
  have hk : seqIndex? 0 (y :: ws).toArray.size = some 0 := by
    unfold seqIndex?
    simp
  have e1 : (y :: ws).toArray.eraseIdxIfInBounds 0 = ws.toArray := kl_erase [] ws y
  obtain ⟨F', N'⟩ := news_seq (f := fun xs => xs.eraseIdxIfInBounds 0) F N hm e1 (by simp)
  exact call_meets PySem.F.slot_list_pop ⟨_, z.1, rfl⟩ PySem.F.entry_list_pop (PySem.F.args_list_pop_2 _ _) (PySem.MeetsSeq.list_pop_at D _ n 0 u _ y (by decide) hk hy hz') ⟨z.1, h _ F' N'⟩

theorem append_N {x : Value} {Q : Value → Shared → Prop} (F : Fr h₀ L s.heap m) (N : News h₀ L s.heap news) (hm : (D, W.listOf vs.toArray n) ∈ news) (hz : vs.length ≤ 2 ^ 20)
    (h : ∀ h', Fr h₀ L h' m → News h₀ L h' (setN D (W.listOf (vs ++ [x]).toArray (n + 1)) news) → Q .none { s with heap := h' }) : wpAny (model prog w) A (call (.builtin "list.append") [.ref D, x]) Q E s := by
  have z := N _ hm
  refine append_at (hsz := by rw [List.size_toArray, sizeLine_eq]; omega) z.1 fun h' hs ho' => ?_
  have e : vs.toArray.push x = (vs ++ [x]).toArray := by simp
  rw [e] at ho'
  obtain ⟨F', N'⟩ := news_setN F N hm hs ho'
  exact h h' F' N'

theorem truthy_N {Q : Bool → Shared → Prop} (N : News h₀ L s.heap news) (hm : (D, W.listOf vs.toArray n) ∈ news) (hz : vs.length ≤ 2 ^ 20) (h : Q (!vs.isEmpty) { s with toks := s.toks + 1 + 1 }) :
    wpAny (model prog w) A (truthy (.ref D)) Q E s :=
  wpAny_truthy_list (PySem.IsL.isList (n := n) (N _ hm).1) (by rw [List.size_toArray]; omega) (by rw [List.isEmpty_toArray]; exact h)

theorem meth_pop {pl : Sem Bool} {Q : Value × List Value → Shared → Prop} (N : News h₀ L s.heap news) (hm : (D, W.listOf vs.toArray n) ∈ news) (h : Q (.builtin "list.pop", [.ref D]) s) : wpAny (model prog w) A (getMethod (.ref D) (Str.ofString "pop") pl) Q E s :=
  kl_method N hm PySem.F.slot_list_pop PySem.F.type_list_pop h
theorem meth_append {pl : Sem Bool} {Q : Value × List Value → Shared → Prop} (N : News h₀ L s.heap news) (hm : (D, W.listOf vs.toArray n) ∈ news) (h : Q (.builtin "list.append", [.ref D]) s) : wpAny (model prog w) A (getMethod (.ref D) (Str.ofString "append") pl) Q E s :=
  kl_method N hm PySem.F.slot_list_append PySem.F.type_list_append h
theorem meth_sort {pl : Sem Bool} {Q : Value × List Value → Shared → Prop} (N : News h₀ L s.heap news) (hm : (D, W.listOf vs.toArray n) ∈ news) (h : Q (.builtin "list.sort", [.ref D]) s) : wpAny (model prog w) A (getMethod (.ref D) (Str.ofString "sort") pl) Q E s :=
  kl_method N hm PySem.F.slot_list_sort PySem.F.type_list_sort h
end
end Mine
end

/- part Sort2 -/
section
/- Python's sort of a list of pairs -/
open PySem PySem.W PyProof.Rows
set_option Elab.async false
set_option maxRecDepth 100000
namespace Mine
theorem ltP_ord : Ord It.lt where
  asymm x y h := by
    unfold It.lt ltP at *
    by_cases e : x.q = y.q
    · simp only [e, beq_self_eq_true, if_true, decide_eq_true_eq, decide_eq_false_iff_not] at *
      omega
    · have e1 : (x.q == y.q) = false := by simp [e]
      have e2 : (y.q == x.q) = false := by simp [Ne.symm e]
      simp only [e1, e2, Bool.false_eq_true, if_false, decide_eq_true_eq, decide_eq_false_iff_not] at *
      exact List.lt_asymm h
  trans x y z h1 h2 := by
    unfold It.lt ltP at *
    by_cases e : y.q = x.q
    · by_cases f : z.q = y.q
      · simp only [e, f, beq_self_eq_true, if_true, decide_eq_false_iff_not] at *
        omega
      · have f1 : (z.q == y.q) = false := by simp [f]
        rw [e] at f1 h2
        rw [f1] at h2 ⊢
        exact h2
    · have e1 : (y.q == x.q) = false := by simp [e]
      rw [e1] at h1
      simp only [Bool.false_eq_true, if_false, decide_eq_false_iff_not] at h1
      have hxy : x.q.cps.toList ≤ y.q.cps.toList := List.not_lt.1 h1
      have ne : x.q.cps.toList ≠ y.q.cps.toList := fun c => e (by
        cases hx : x.q; cases hy : y.q
        rw [hx, hy] at c
        simp only [Str.mk.injEq]
        exact (Array.toList_inj.1 c).symm)
      have lxy : x.q.cps.toList < y.q.cps.toList := by
        rcases List.le_iff_lt_or_eq.1 hxy with h | h
        · exact h
        · exact absurd h ne
      by_cases f : z.q = y.q
      · rw [f, e1]
        simp only [Bool.false_eq_true, if_false, decide_eq_false_iff_not]
        exact h1
      · have f1 : (z.q == y.q) = false := by simp [f]
        rw [f1] at h2
        simp only [Bool.false_eq_true, if_false, decide_eq_false_iff_not] at h2
        have hyz : y.q.cps.toList ≤ z.q.cps.toList := List.not_lt.1 h2
        have lxz : x.q.cps.toList < z.q.cps.toList := by
          rcases List.le_iff_lt_or_eq.1 hyz with h | h
          · exact List.lt_trans lxy h
          · rw [← h]; exact lxy
        have g : z.q ≠ x.q := fun c => by rw [c] at lxz; exact List.lt_irrefl _ lxz
        have g1 : (z.q == x.q) = false := by simp [g]
        rw [g1]
        simp only [Bool.false_eq_true, if_false, decide_eq_false_iff_not]
        exact List.lt_asymm lxz
theorem ltP_total {x y : It} (hne : x.p ≠ y.p) (h : x.lt y = false) : y.lt x = true := by
  unfold It.lt ltP at *
  by_cases e : x.q = y.q
  · simp only [e, beq_self_eq_true, if_true, decide_eq_true_eq, decide_eq_false_iff_not] at *
    omega
  · have e1 : (x.q == y.q) = false := by simp [e]
    have e2 : (y.q == x.q) = false := by simp [Ne.symm e]
    simp only [e1, e2, Bool.false_eq_true, if_false, decide_eq_true_eq, decide_eq_false_iff_not] at *
    have := List.not_lt.1 h
    rcases List.le_iff_lt_or_eq.1 this with h | h
    · exact h
    · exfalso
      apply e
      cases hx : x.q; cases hy : y.q
      rw [hx, hy] at h
      simp only [Str.mk.injEq]
      exact (Array.toList_inj.1 h).symm

noncomputable def ltI (l : List It) (i j : Nat) : Bool := match l[i]?, l[j]? with
  | some x, some y => x.lt y
  | _, _ => false
theorem ltI_at {l : List It} {i j : Nat} (hi : i < l.length) (hj : j < l.length) : ltI l i j = l[i].lt l[j] := by
  unfold ltI; rw [List.getElem?_eq_getElem hi, List.getElem?_eq_getElem hj]
theorem ltI_tot {l : List It} (hd : (l.map It.p).Nodup) : Tot (ltI l) l.length where
  asymm x y hx hy h := by rw [ltI_at hx hy] at h; rw [ltI_at hy hx]; exact ltP_ord.asymm _ _ h
  trans x y z hx hy hz h1 h2 := by rw [ltI_at hy hx] at h1; rw [ltI_at hz hy] at h2; rw [ltI_at hz hx]; exact ltP_ord.trans _ _ _ h1 h2
  total x y hx hy hne h := by
    rw [ltI_at hx hy] at h; rw [ltI_at hy hx]
    refine ltP_total (fun c => hne ?_) h
    have hx' : x < (l.map It.p).length := by simpa using hx
    have hy' : y < (l.map It.p).length := by simpa using hy
    exact (List.getElem_inj (h₀ := hx') (h₁ := hy') hd).1 (by simpa using c)

/-- l' is l in order -/
noncomputable def SortOf (l l' : List It) : Prop := l'.Perm l ∧ l'.Pairwise fun x y => y.lt x = false
theorem sortOf_of {l : List It} (hd : (l.map It.p).Nodup) (hN : 0 < l.length) {p : Array Nat} (hp : Pm l.length p) (hs : Srt (ltI l) p l.length) :
    ∃ l', SortOf l l' ∧ (p.toList.map fun i => (l.map It.v).getD i Value.none) = l'.map It.v := by
  have x0 : It := l[0]
  have e0 : ∀ i, i < l.length → l.getD i x0 = l[i]?.getD x0 := fun i _ => by rw [List.getD_eq_getElem?_getD]
  refine ⟨p.toList.map fun i => l.getD i x0, ⟨?_, ?_⟩, ?_⟩
  · refine (List.Perm.map _ hp).trans ?_
    have : (List.range l.length).map (fun i => l.getD i x0) = l := by
      apply List.ext_getElem
      · simp
      · intro i h1 h2
        simp [List.getD_eq_getElem?_getD, h2]
    rw [this]
  · rw [List.pairwise_map, List.pairwise_iff_getElem]
    intro i j hi hj hij
    have hsz := hp.size
    have hi' : i < l.length := by simpa [hsz] using hi
    have hj' : j < l.length := by simpa [hsz] using hj
    have := hs.le (ltI_tot hd) hp hN (j - i) i (by omega)
    rw [show i + (j - i) = j by omega] at this
    have ei : p.getD i 0 = p.toList[i] := by simp [Array.getD, hsz, hi']
    have ej : p.getD j 0 = p.toList[j] := by simp [Array.getD, hsz, hj']
    have bi := hp.below hN i
    have bj := hp.below hN j
    rw [ei] at this bi
    rw [ej] at this bj
    rw [ltI_at bj bi] at this
    rw [List.getD_eq_getElem?_getD, List.getD_eq_getElem?_getD, List.getElem?_eq_getElem bi, List.getElem?_eq_getElem bj]
    exact this
  · rw [List.map_map]
    apply List.map_congr_left
    intro i hi
    have : i < l.length := List.mem_range.1 (hp.subset hi)
    simp [List.getD_eq_getElem?_getD, this]

section
variable {prog : Program} {w : World} {A : Around} {E : Value → Shared → Prop} {s : Shared} {h₀ : Heap} {L D : Addr} {m : Str → Option Value} {news : List (Addr × Obj)} {n : Nat}
theorem key_lt {x y : It} {Q : Bool → Shared → Prop} (hx : s.heap.get? x.a = some x.o) (hy : s.heap.get? y.a = some y.o) (h : Q (x.lt y) s) :
    wpAny (model prog w) A (keyLt' (tuples' true) x.v y.v) Q E s := by
  refine kat_lt hx rfl hy rfl ?_
  refine kat_cons (wpAny_eqBool_str ?_)
  unfold It.lt ltP at h
  by_cases e : x.q = y.q
  · simp only [e, beq_self_eq_true, if_true, decide_true] at h ⊢
    refine kat_yes (kat_cons (wpAny_eqBool_int ?_))
    by_cases e2 : x.p = y.p
    · simp only [e2, beq_self_eq_true]
      refine kat_yes (kat_nil ?_)
      rw [e2] at h
      simpa using h
    · have e3 : (x.p == y.p) = false := by simp [e2]
      rw [e3]
      refine kat_no ?_
      simp only [Nat.zero_add, Bool.true_and]
      rw [show ((1 : Nat) == 0) = false from rfl]
      refine kat_one _ _ ?_
      refine wpAny_lt_int ?_
      exact h
  · have e1 : (x.q == y.q) = false := by simp [e]
    rw [e1] at h
    simp only [e, decide_false]
    exact kat_no (oneLt_str h)

theorem tups_its (N : News h₀ L s.heap news) : ∀ {l : List It}, InN news l → KatTups s.heap (l.map It.v) (l.map fun x => Value.str x.q x.t)
  | [], _ => trivial
  | x :: r, h => ⟨⟨x.a, x.o, _, _, rfl, (N _ (h x (.head _))).1, rfl, rfl, rfl⟩, tups_its N fun y hy => h y (.tail _ hy)⟩
theorem news_cons_setN {h : Heap} {o : Obj} (N : News h₀ L h ((D, o) :: news.filter fun p => decide (p.1 ≠ D))) : News h₀ L h (setN D o news) := by
  intro p hp
  obtain ⟨q, hq, rfl⟩ := List.mem_map.mp hp
  by_cases e : q.1 = D
  · simp only [e, if_true]
    exact N _ (.head _)
  · simp only [e, if_false]
    exact N _ (.tail _ (List.mem_filter.mpr ⟨hq, by simpa using e⟩))
theorem sort_N {l : List It} {Q : Value → Shared → Prop} (F : Fr h₀ L s.heap m) (N : News h₀ L s.heap news) (hm : (D, W.listOf (l.map It.v).toArray n) ∈ news) (hl : InN news l) (hd : (l.map It.p).Nodup) (h2 : 2 ≤ l.length) (h64 : l.length < 64)
    (h : ∀ h' l' n', SortOf l l' → Fr h₀ L h' m → News h₀ L h' (setN D (W.listOf (l'.map It.v).toArray n') news) → Q .none { s with heap := h' }) :
    wpAny (model prog w) A (call (.builtin "list.sort") [.ref D]) Q E s := by
  have nz := N _ hm
  have N₀ : News h₀ L s.heap (news.filter fun p => decide (p.1 ≠ D)) := fun p hp => N p (List.mem_filter.mp hp).1
  have hna : ∀ p ∈ news.filter (fun p => decide (p.1 ≠ D)), p.1 ≠ D := fun p hp => by simpa using (List.mem_filter.mp hp).2
  refine wpAny_call_entry slot_list_sort ⟨_, nz.1, rfl⟩ entry_list_sort (kat_list_sort F N₀ nz.1 nz.2.1 nz.2.2 hna (by simpa using h2) (by simpa using h64) fun e1 h' F' N' => ?_) (args_list_sort _)
  have hl' : InN (news.filter fun p => decide (p.1 ≠ D)) l := fun x hx => List.mem_filter.mpr ⟨hl x hx, by
    simpa using news_ne N (hl x hx) hm (by unfold It.o pairO W.listOf; simp)⟩
  have N2 : News h₀ L h' (news.filter fun p => decide (p.1 ≠ D)) := fun p hp => N' p (.tail _ hp)
  refine kat_kind (T := .type "str") (tups_its (s := { s with heap := h' }) N2 hl') (by simpa using (by omega : 0 < l.length)) (fun v hv => ?_) rfl ?_
  · obtain ⟨x, hx, rfl⟩ := List.mem_map.mp hv
    exact .now
  · rw [List.length_map]
    refine Yields.wp (lt := ltI l) (N := l.length) (fun i j C hi hj hC => ?_) _ (Yields.mono (fun p hp => ?_) _ (sort_yields (ltI_tot hd) (by omega)))
    · unfold kas_ask
      have ei : (l.map It.v).getD i Value.none = l[i].v := by simp [List.getD_eq_getElem?_getD, hi]
      have ej : (l.map It.v).getD j Value.none = l[j].v := by simp [List.getD_eq_getElem?_getD, hj]
      rw [ei, ej]
      rw [ltI_at hi hj] at hC
      exact key_lt (N2 _ (hl' _ (List.getElem_mem hi))).1 (N2 _ (hl' _ (List.getElem_mem hj))).1 hC
    · obtain ⟨l', sl, el⟩ := sortOf_of hd (by omega) hp.1 hp.2
      rw [el]
      refine KasFin.intro F' N' (.head hna) fun h3 c F3 N3 => ⟨_, rfl, h _ l' c sl F3 (news_cons_setN N3)⟩
end
end Mine
end

/- part Law1 -/
section
/- plain: line ends, dots, their order and their joining -/
set_option maxRecDepth 100000
namespace Mine
noncomputable def ends : List Nat → List Nat
  | [] => []
  | [c] => if c = 13 ∨ c = 10 then [13, 10] else [c]
  | c :: d :: r => if c = 13 ∧ d = 10 then 13 :: 10 :: ends r else if c = 13 ∨ c = 10 then 13 :: 10 :: ends (d :: r) else c :: ends (d :: r)
noncomputable def dots : Bool → List Nat → List Nat
  | _, [] => []
  | b, c :: r => if b = true ∧ c = 46 then 46 :: 46 :: dots false r else c :: dots (c == 10) r
noncomputable def quote (l : List Nat) : List Nat := dots true (ends l)

theorem ends_crlf (r : List Nat) : ends (13 :: 10 :: r) = 13 :: 10 :: ends r := by simp [ends]
theorem ends_lf (r : List Nat) : ends (10 :: r) = 13 :: 10 :: ends r := by
  cases r <;> simp [ends]
theorem ends_cr {r : List Nat} (h : r.head? ≠ some 10) : ends (13 :: r) = 13 :: 10 :: ends r := by
  cases r with
  | nil => simp [ends]
  | cons d r =>
    have : d ≠ 10 := fun e => h (by rw [e]; rfl)
    simp [ends, this]
theorem ends_other {c : Nat} {r : List Nat} (h1 : c ≠ 13) (h2 : c ≠ 10) : ends (c :: r) = c :: ends r := by
  cases r <;> simp [ends, h1, h2]

/-- the three ways a text begins -/
theorem ends_cases {P : List Nat → Prop} (nil : P []) (crlf : ∀ r, P r → P (13 :: 10 :: r)) (lf : ∀ r, P r → P (10 :: r)) (cr : ∀ r, r.head? ≠ some 10 → P r → P (13 :: r))
    (other : ∀ c r, c ≠ 13 → c ≠ 10 → P r → P (c :: r)) : ∀ l, P l := by
  intro l
  induction h : l.length using Nat.strongRecOn generalizing l with
  | ind n ih =>
    match l, h with
    | [], _ => exact nil
    | c :: r, h =>
      have hr : P r := ih r.length (by rw [← h]; simp) r rfl
      by_cases h13 : c = 13
      · subst h13
        by_cases h10 : r.head? = some 10
        · match r, h10 with
          | d :: r', h10 =>
            have : d = 10 := by simpa using h10
            subst this
            exact crlf r' (ih r'.length (by rw [← h]; simp; omega) r' rfl)
        · exact cr r h10 hr
      · by_cases h10 : c = 10
        · subst h10; exact lf r hr
        · exact other c r h13 h10 hr

theorem dots_nl (b : Bool) (r : List Nat) : dots b (13 :: 10 :: r) = 13 :: 10 :: dots true r := by simp [dots]
theorem dots_dot (r : List Nat) : dots true (46 :: r) = 46 :: 46 :: dots false r := by simp [dots]
theorem dots_other {b : Bool} {c : Nat} {r : List Nat} (h : ¬ (b = true ∧ c = 46)) : dots b (c :: r) = c :: dots (c == 10) r := by simp [dots, h]

/-- the order -/
theorem dots_lt : ∀ (u v : List Nat) (b : Bool), decide (dots b u < dots b v) = decide (u < v)
  | [], [], _ => by simp [dots]
  | [], d :: v, b => by
    have : dots b (d :: v) ≠ [] := by unfold dots; split <;> simp
    cases h : dots b (d :: v) with
    | nil => exact absurd h this
    | cons x y => simp [dots]
  | c :: u, [], b => by
    cases h : dots b (c :: u) with
    | nil => simp [dots]
    | cons x y => simp [dots]
  | c :: u, d :: v, b => by
    by_cases hc : b = true ∧ c = 46
    · obtain ⟨rfl, rfl⟩ := hc
      rw [dots_dot]
      by_cases hd : d = 46
      · subst hd
        rw [dots_dot]
        have ih := dots_lt u v false
        simp only [List.cons_lt_cons_iff, Nat.lt_irrefl, false_or, true_and]
        exact ih
      · rw [dots_other (fun q => hd q.2)]
        have hd' : (46 : Nat) ≠ d := fun e => hd e.symm
        simp [List.cons_lt_cons_iff, hd']
    · rw [dots_other hc]
      by_cases hd : b = true ∧ d = 46
      · obtain ⟨rfl, rfl⟩ := hd
        have hc' : c ≠ 46 := fun e => hc ⟨rfl, e⟩
        rw [dots_dot]
        simp [List.cons_lt_cons_iff, hc']
      · rw [dots_other hd]
        by_cases e : c = d
        · subst e
          have ih := dots_lt u v (c == 10)
          simp only [List.cons_lt_cons_iff, Nat.lt_irrefl, false_or, true_and]
          exact ih
        · simp [List.cons_lt_cons_iff, e]
theorem dots_inj : ∀ (u v : List Nat) (b : Bool), dots b u = dots b v → u = v
  | [], [], _, _ => rfl
  | [], d :: v, b, h => by unfold dots at h; split at h <;> simp at h
  | c :: u, [], b, h => by unfold dots at h; split at h <;> simp at h
  | c :: u, d :: v, b, h => by
    by_cases hc : b = true ∧ c = 46
    · obtain ⟨rfl, rfl⟩ := hc
      rw [dots_dot] at h
      by_cases hd : d = 46
      · subst hd
        rw [dots_dot] at h
        simp only [List.cons.injEq, true_and] at h
        rw [dots_inj u v false h]
      · rw [dots_other (fun q => hd q.2)] at h
        simp only [List.cons.injEq] at h
        exact absurd h.1.symm hd
    · rw [dots_other hc] at h
      by_cases hd : b = true ∧ d = 46
      · obtain ⟨rfl, rfl⟩ := hd
        rw [dots_dot] at h
        simp only [List.cons.injEq] at h
        exact absurd ⟨rfl, h.1⟩ hc
      · rw [dots_other hd] at h
        simp only [List.cons.injEq] at h
        obtain ⟨rfl, h⟩ := h
        rw [dots_inj u v _ h]

/-- the joining -/
noncomputable def flagAt (b : Bool) (u : List Nat) : Bool := match u.getLast? with
  | none => b
  | some c => c == 10
theorem flagAt_cons (b : Bool) (c : Nat) (u : List Nat) : flagAt b (c :: u) = flagAt (c == 10) u := by
  unfold flagAt
  cases u with
  | nil => rfl
  | cons d r => rw [List.getLast?_cons_cons]; cases h : (d :: r).getLast? with
    | none => simp at h
    | some x => rfl
theorem dots_append : ∀ (u v : List Nat) (b : Bool), dots b (u ++ v) = dots b u ++ dots (flagAt b u) v
  | [], v, b => rfl
  | c :: u, v, b => by
    rw [List.cons_append, flagAt_cons]
    by_cases hc : b = true ∧ c = 46
    · obtain ⟨rfl, rfl⟩ := hc
      rw [dots_dot, dots_dot, dots_append u v false]; rfl
    · rw [dots_other hc, dots_other hc, dots_append u v _]; rfl
theorem ends_append {a b : List Nat} (h : ¬ (a.getLast? = some 13 ∧ b.head? = some 10)) : ends (a ++ b) = ends a ++ ends b := by
  revert h
  refine ends_cases (P := fun a => ¬ (a.getLast? = some 13 ∧ b.head? = some 10) → ends (a ++ b) = ends a ++ ends b) ?_ ?_ ?_ ?_ ?_ a
  · intro _; rfl
  · intro r ih h
    have h' : ¬ (r.getLast? = some 13 ∧ b.head? = some 10) := by
      intro q; apply h; refine ⟨?_, q.2⟩
      cases r with
      | nil => simp at q
      | cons x y => rw [List.getLast?_cons_cons, List.getLast?_cons_cons]; exact q.1
    rw [List.cons_append, List.cons_append, ends_crlf, ends_crlf, ih h']; rfl
  · intro r ih h
    have h' : ¬ (r.getLast? = some 13 ∧ b.head? = some 10) := by
      intro q; apply h; refine ⟨?_, q.2⟩
      cases r with
      | nil => simp at q
      | cons x y => rw [List.getLast?_cons_cons]; exact q.1
    rw [List.cons_append, ends_lf, ends_lf, ih h']; rfl
  · intro r hr ih h
    have h' : ¬ (r.getLast? = some 13 ∧ b.head? = some 10) := by
      intro q; apply h; refine ⟨?_, q.2⟩
      cases r with
      | nil => simp at q
      | cons x y => rw [List.getLast?_cons_cons]; exact q.1
    have hh : (r ++ b).head? ≠ some 10 := by
      cases r with
      | nil => intro q; exact h ⟨rfl, q⟩
      | cons x y => exact hr
    rw [List.cons_append, ends_cr hr, ends_cr hh, ih h']; rfl
  · intro c r h1 h2 ih h
    have h' : ¬ (r.getLast? = some 13 ∧ b.head? = some 10) := by
      intro q; apply h; refine ⟨?_, q.2⟩
      cases r with
      | nil => simp at q
      | cons x y => rw [List.getLast?_cons_cons]; exact q.1
    rw [List.cons_append, ends_other h1 h2, ends_other h1 h2, ih h']; rfl
end Mine
end

/- part Law2 -/
section
/- plain: joining two quoted texts; rows; replacing -/
set_option maxRecDepth 100000
namespace Mine

theorem ends_last : ∀ (a : List Nat), a ≠ [] → flagAt true (ends a) = (a.getLast? == some 13 || a.getLast? == some 10) := by
  have key : ∀ (r : List Nat) (b : Bool), flagAt b (13 :: 10 :: ends r) = flagAt true (ends r) := by
    intro r b; rw [flagAt_cons, flagAt_cons]; rfl
  have kn : ∀ r : List Nat, r ≠ [] → ∀ c, (c :: r).getLast? = r.getLast? := by
    intro r hr c
    cases r with
    | nil => exact absurd rfl hr
    | cons x y => rw [List.getLast?_cons_cons]
  refine ends_cases (P := fun a => a ≠ [] → flagAt true (ends a) = (a.getLast? == some 13 || a.getLast? == some 10)) ?_ ?_ ?_ ?_ ?_
  · intro h; exact absurd rfl h
  · intro r ih _
    rw [ends_crlf, key]
    cases r with
    | nil => simp [ends, flagAt]
    | cons x y => rw [ih (by simp), List.getLast?_cons_cons, List.getLast?_cons_cons]
  · intro r ih _
    rw [ends_lf, key]
    cases r with
    | nil => simp [ends, flagAt]
    | cons x y => rw [ih (by simp), List.getLast?_cons_cons]
  · intro r hr ih _
    rw [ends_cr hr, key]
    cases r with
    | nil => simp [ends, flagAt]
    | cons x y => rw [ih (by simp), List.getLast?_cons_cons]
  · intro c r h1 h2 ih _
    rw [ends_other h1 h2, flagAt_cons]
    have e10 : (c == 10) = false := by simp [h2]
    rw [e10]
    cases r with
    | nil => simp [ends, flagAt, h1, h2]
    | cons x y =>
      have hne : ends (x :: y) ≠ [] := by
        unfold ends; split <;> (try split) <;> (try split) <;> simp_all
      have : flagAt false (ends (x :: y)) = flagAt true (ends (x :: y)) := by
        unfold flagAt
        cases h : (ends (x :: y)).getLast? with
        | none => exact absurd (List.getLast?_eq_none_iff.mp h) hne
        | some z => rfl
      rw [this, ih (by simp), List.getLast?_cons_cons]

theorem ends_head {b : List Nat} : (ends b).head? = some 46 ↔ b.head? = some 46 := by
  refine ends_cases (P := fun b => (ends b).head? = some 46 ↔ b.head? = some 46) ?_ ?_ ?_ ?_ ?_ b
  · simp [ends]
  · intro r _; rw [ends_crlf]; simp
  · intro r _; rw [ends_lf]; simp
  · intro r h _; rw [ends_cr h]; simp
  · intro c r h1 h2 _; rw [ends_other h1 h2]; simp
theorem dots_true_dot {v : List Nat} (h : v.head? = some 46) : (dots true v).drop 1 = dots false v := by
  cases v with
  | nil => simp at h
  | cons c r =>
    have : c = 46 := by simpa using h
    subst this
    rw [dots_dot, dots_other (by simp)]; rfl
theorem dots_true_other {v : List Nat} (h : v.head? ≠ some 46) : dots true v = dots false v := by
  cases v with
  | nil => rfl
  | cons c r =>
    have : c ≠ 46 := by simpa using h
    rw [dots_other (fun q => this q.2), dots_other (fun q => this q.2)]

theorem quote_cut {a b : List Nat} (ha : a.getLast? = some 13) (hb : b.head? = some 10) : quote (a ++ b) = quote a ++ (quote b).drop 2 := by
  obtain ⟨a', rfl⟩ : ∃ a', a = a' ++ [13] := by
    refine ⟨a.dropLast, ?_⟩
    have hne : a ≠ [] := by rintro rfl; simp at ha
    rw [List.getLast?_eq_some_getLast hne] at ha
    have := Option.some.inj ha
    rw [← this, List.dropLast_concat_getLast]
  obtain ⟨b', rfl⟩ : ∃ b', b = 10 :: b' := by
    cases b with
    | nil => simp at hb
    | cons c r => exact ⟨r, by simpa using hb⟩
  have e1 : ends (a' ++ [13]) = ends a' ++ [13, 10] := by rw [ends_append (by simp)]; simp [ends]
  have e2 : ends ((a' ++ [13]) ++ 10 :: b') = ends a' ++ 13 :: 10 :: ends b' := by
    rw [List.append_assoc, ends_append (by simp)]
    show ends a' ++ ends (13 :: 10 :: b') = _
    rw [ends_crlf]
  unfold quote
  rw [e1, e2, ends_lf, dots_append, dots_append, dots_nl, dots_nl, List.append_assoc]
  rfl
theorem quote_dot {a b : List Nat} (ha : a ≠ []) (h1 : a.getLast? ≠ some 13) (h2 : a.getLast? ≠ some 10) (hb : b.head? = some 46) : quote (a ++ b) = quote a ++ (quote b).drop 1 := by
  unfold quote
  rw [ends_append (by rintro ⟨q, _⟩; exact h1 q), dots_append, ends_last a ha]
  have : (a.getLast? == some 13 || a.getLast? == some 10) = false := by simp [h1, h2]
  rw [this, dots_true_dot (ends_head.mpr hb)]
theorem quote_plain {a b : List Nat} (h1 : ¬ (a.getLast? = some 13 ∧ b.head? = some 10)) (h2 : ¬ (b.head? = some 46 ∧ a ≠ [] ∧ a.getLast? ≠ some 13 ∧ a.getLast? ≠ some 10)) : quote (a ++ b) = quote a ++ quote b := by
  unfold quote
  rw [ends_append h1, dots_append]
  cases ha : a with
  | nil => rfl
  | cons x y =>
    rw [← ha]
    have hne : a ≠ [] := by rw [ha]; simp
    rw [ends_last a hne]
    by_cases h3 : a.getLast? = some 13 ∨ a.getLast? = some 10
    · have : (a.getLast? == some 13 || a.getLast? == some 10) = true := by rcases h3 with h | h <;> simp [h]
      rw [this]
    · have : (a.getLast? == some 13 || a.getLast? == some 10) = false := by
        have q1 : a.getLast? ≠ some 13 := fun q => h3 (.inl q)
        have q2 : a.getLast? ≠ some 10 := fun q => h3 (.inr q)
        simp [q1, q2]
      rw [this]
      have hb : (ends b).head? ≠ some 46 := by
        intro q
        exact h2 ⟨ends_head.mp q, hne, fun q => h3 (.inl q), fun q => h3 (.inr q)⟩
      rw [dots_true_other hb]

/-- rows, by a separator; joined again -/
noncomputable def splitL (y : List Nat) : Nat → List Nat → List Nat → List (List Nat)
  | _, cur, [] => [cur]
  | k + 1, cur, _ :: r => splitL y k cur r
  | 0, cur, c :: r => if y.isPrefixOf (c :: r) = true then cur :: splitL y (y.length - 1) [] r else splitL y 0 (cur ++ [c]) r
noncomputable def joinL (z : List Nat) : List (List Nat) → List Nat
  | [] => []
  | [p] => p
  | p :: q :: r => p ++ z ++ joinL z (q :: r)
noncomputable def replL (y z : List Nat) : Nat → List Nat → List Nat
  | _, [] => []
  | k + 1, _ :: r => replL y z k r
  | 0, c :: r => if y.isPrefixOf (c :: r) = true then z ++ replL y z (y.length - 1) r else c :: replL y z 0 r
theorem splitL_ne (y : List Nat) : ∀ (k : Nat) (cur l : List Nat), ∃ p r, splitL y k cur l = p :: r
  | _, cur, [] => ⟨cur, [], by cases ‹Nat› <;> rfl⟩
  | k + 1, cur, _ :: r => splitL_ne y k cur r
  | 0, cur, c :: r => by
    unfold splitL
    split
    · exact ⟨_, _, rfl⟩
    · exact splitL_ne y 0 (cur ++ [c]) r
theorem joinL_cons (z p : List Nat) {l : List (List Nat)} (h : ∃ q r, l = q :: r) : joinL z (p :: l) = p ++ z ++ joinL z l := by
  obtain ⟨q, r, rfl⟩ := h; rfl
theorem join_splitL (y z : List Nat) : ∀ (k : Nat) (cur l : List Nat), joinL z (splitL y k cur l) = cur ++ replL y z k l
  | 0, cur, [] => by simp [splitL, replL, joinL]
  | k + 1, cur, [] => by simp [splitL, replL, joinL]
  | k + 1, cur, _ :: r => by
    show joinL z (splitL y k cur r) = cur ++ replL y z k r
    exact join_splitL y z k cur r
  | 0, cur, c :: r => by
    unfold splitL replL
    by_cases h : y.isPrefixOf (c :: r) = true
    · rw [if_pos h, if_pos h, joinL_cons z cur (splitL_ne y _ _ _), join_splitL y z _ [] r]
      simp
    · rw [if_neg h, if_neg h, join_splitL y z 0 (cur ++ [c]) r]
      simp

theorem replL_len {y z : List Nat} (hz : z.length ≤ 1) : ∀ (k : Nat) (l : List Nat), (replL y z k l).length ≤ l.length
  | 0, [] => Nat.le_refl _
  | _ + 1, [] => Nat.le_refl _
  | k + 1, _ :: r => Nat.le_succ_of_le (replL_len hz k r)
  | 0, c :: r => by
    rw [replL]
    have h1 := replL_len (y := y) hz (y.length - 1) r
    have h2 := replL_len (y := y) hz 0 r
    split
    · rw [List.length_append, List.length_cons]; omega
    · rw [List.length_cons, List.length_cons]; omega
theorem replL_one (c : Nat) (z : List Nat) : ∀ l : List Nat, replL [c] z 0 l = l.flatMap fun a => if a = c then z else [a]
  | [] => rfl
  | a :: r => by
    unfold replL
    rw [replL_one c z r]
    show (if ([c].isPrefixOf (a :: r)) = true then z ++ replL [c] z 0 r else _) = _
    rw [replL_one c z r]
    by_cases h : a = c
    · subst h; simp
    · have : ¬ c = a := fun e => h e.symm
      simp [h, this]
theorem repl_crlf (r : List Nat) : replL [13, 10] [10] 0 (13 :: 10 :: r) = 10 :: replL [13, 10] [10] 0 r := by
  rw [replL, if_pos (by simp)]
  rfl
theorem repl_not {c : Nat} {r : List Nat} (h : ¬ (c = 13 ∧ r.head? = some 10)) : replL [13, 10] [10] 0 (c :: r) = c :: replL [13, 10] [10] 0 r := by
  rw [replL, if_neg]
  intro q
  apply h
  cases r with
  | nil => simp at q
  | cons d r =>
    simp at q
    exact ⟨q.1.symm, by rw [← q.2]; rfl⟩
/-- the law's own line ends -/
theorem ends_repl (l : List Nat) : replL [10] [13, 10] 0 (replL [13] [10] 0 (replL [13, 10] [10] 0 l)) = ends l := by
  rw [replL_one, replL_one]
  refine ends_cases (P := fun l => ((replL [13, 10] [10] 0 l).flatMap fun a => if a = 13 then [10] else [a]).flatMap (fun a => if a = 10 then [13, 10] else [a]) = ends l) ?_ ?_ ?_ ?_ ?_ l
  · rfl
  · intro r ih; rw [repl_crlf, ends_crlf, ← ih]; simp
  · intro r ih; rw [repl_not (by simp), ends_lf, ← ih]; simp
  · intro r h ih; rw [repl_not (fun q => h q.2), ends_cr h, ← ih]; simp
  · intro c r h1 h2 ih; rw [repl_not (fun q => h1 q.1), ends_other h1 h2, ← ih]; simp [h1, h2]

/-- the law's own quoting, row by row -/
noncomputable def dotRow (row : List Nat) : List Nat := if row.head? = some 46 then 46 :: row else row
theorem rows_quote (l : List Nat) : ∀ cur : List Nat, joinL [13, 10] ((splitL [13, 10] 0 cur (ends l)).map dotRow) = if cur = [] then dots true (ends l) else dotRow cur ++ dots false (ends l) := by
  have nl : ∀ (r cur : List Nat), (∀ cur : List Nat, joinL [13, 10] ((splitL [13, 10] 0 cur (ends r)).map dotRow) = if cur = [] then dots true (ends r) else dotRow cur ++ dots false (ends r)) →
      joinL [13, 10] ((splitL [13, 10] 0 cur (13 :: 10 :: ends r)).map dotRow) = if cur = [] then dots true (13 :: 10 :: ends r) else dotRow cur ++ dots false (13 :: 10 :: ends r) := by
    intro r cur ih
    rw [splitL, if_pos (by simp)]
    show joinL [13, 10] ((cur :: splitL [13, 10] 0 [] (ends r)).map dotRow) = _
    obtain ⟨p, q, e⟩ := splitL_ne [13, 10] 0 [] (ends r)
    have i0 := ih []
    rw [e] at i0 ⊢
    rw [List.map_cons, joinL_cons [13, 10] (dotRow cur) (l := (p :: q).map dotRow) ⟨_, _, rfl⟩, i0, if_pos rfl, dots_nl, dots_nl]
    by_cases hc : cur = []
    · subst hc; simp [dotRow]
    · rw [if_neg hc]; simp
  refine ends_cases (P := fun l => ∀ cur : List Nat, joinL [13, 10] ((splitL [13, 10] 0 cur (ends l)).map dotRow) = if cur = [] then dots true (ends l) else dotRow cur ++ dots false (ends l)) ?_ ?_ ?_ ?_ ?_ l
  · intro cur
    by_cases hc : cur = []
    · subst hc; simp [ends, splitL, joinL, dots, dotRow]
    · simp [ends, splitL, joinL, dots, hc]
  · intro r ih cur; rw [ends_crlf]; exact nl r cur ih
  · intro r ih cur; rw [ends_lf]; exact nl r cur ih
  · intro r h ih cur; rw [ends_cr h]; exact nl r cur ih
  · intro c r h1 h2 ih cur
    rw [ends_other h1 h2, splitL, if_neg (by simp; intro q; exact absurd q.symm h1), ih (cur ++ [c]), if_neg (by simp)]
    have e10 : (c == 10) = false := by simp [h2]
    by_cases hc : cur = []
    · subst hc
      rw [if_pos rfl]
      by_cases h46 : c = 46
      · subst h46; rw [dots_dot]; simp [dotRow]
      · rw [dots_other (fun q => h46 q.2), e10]; simp [dotRow, h46]
    · rw [if_neg hc, dots_other (by simp), e10]
      cases cur with
      | nil => exact absurd rfl hc
      | cons x y =>
        unfold dotRow
        simp only [List.cons_append, List.head?_cons]
        by_cases h46 : x = 46 <;> simp [h46]
theorem rows_quote0 (l : List Nat) : joinL [13, 10] ((splitL [13, 10] 0 [] (ends l)).map dotRow) = quote l := by rw [rows_quote, if_pos rfl]; rfl
theorem joinL_len (z : List Nat) : ∀ (l : List (List Nat)), l ≠ [] → (joinL z l).length + z.length = (l.map List.length).sum + l.length * z.length
  | [], h => absurd rfl h
  | [p], _ => by simp [joinL]
  | p :: q :: r, _ => by
    have ih := joinL_len z (q :: r) (by simp)
    rw [joinL, List.length_append, List.length_append]
    simp only [List.map_cons, List.sum_cons, List.length_cons] at ih ⊢
    have : (r.length + 1 + 1) * z.length = (r.length + 1) * z.length + z.length := by rw [Nat.add_mul, Nat.one_mul]
    omega
theorem splitL_len (y : List Nat) : ∀ (k : Nat) (cur l : List Nat), (splitL y k cur l).length ≤ l.length + 1
  | 0, cur, [] => by simp [splitL]
  | _ + 1, cur, [] => by simp [splitL]
  | k + 1, cur, _ :: r => by
    have := splitL_len y k cur r
    show (splitL y k cur r).length ≤ _
    rw [List.length_cons]; omega
  | 0, cur, c :: r => by
    rw [splitL]
    have h1 := splitL_len y (y.length - 1) [] r
    have h2 := splitL_len y 0 (cur ++ [c]) r
    split
    · rw [List.length_cons, List.length_cons]; omega
    · rw [List.length_cons]; omega
theorem splitL_mem (y : List Nat) : ∀ (k : Nat) (cur l p : List Nat), p ∈ splitL y k cur l → p.length ≤ cur.length + l.length
  | 0, cur, [], p, h => by simp [splitL] at h; subst h; simp
  | _ + 1, cur, [], p, h => by simp [splitL] at h; subst h; simp
  | k + 1, cur, _ :: r, p, h => by
    have := splitL_mem y k cur r p h
    rw [List.length_cons]; omega
  | 0, cur, c :: r, p, h => by
    rw [splitL] at h
    split at h
    · rcases List.mem_cons.mp h with rfl | h
      · omega
      · have := splitL_mem y _ [] r p h
        rw [List.length_nil] at this
        rw [List.length_cons]; omega
    · have := splitL_mem y 0 (cur ++ [c]) r p h
      rw [List.length_append] at this
      simp only [List.length_cons, List.length_nil] at this ⊢
      omega
end Mine
end

/- part Round1 -/
section
/- plain: what one round of the law keeps -/
open PySem PySem.W PyProof.Rows
namespace Mine
/-- the pair belongs to the mail of its place, by the making g -/
noncomputable def IsOf (g : List Nat → List Nat) (ms : List (List Nat)) (x : It) : Prop := ∃ (k : Nat) (m : List Nat), x.p = (k : Int) ∧ ms[k]? = some m ∧ x.q = ⟨(g m).toArray⟩
theorem IsOf.more {g : List Nat → List Nat} {ms : List (List Nat)} {x : It} (r : List (List Nat)) (h : IsOf g ms x) : IsOf g (ms ++ r) x := by
  obtain ⟨k, m, a, b, c⟩ := h
  exact ⟨k, m, a, by rw [List.getElem?_append_left (by rw [List.getElem?_eq_some_iff] at b; exact b.1)]; exact b, c⟩
theorem quote_lt (a b : List Nat) (p p' : Int) : ltP ⟨(quote a).toArray⟩ ⟨(quote b).toArray⟩ p p' = ltP ⟨(ends a).toArray⟩ ⟨(ends b).toArray⟩ p p' := by
  unfold ltP
  have e1 : ((⟨(quote a).toArray⟩ : Str) == ⟨(quote b).toArray⟩) = ((⟨(ends a).toArray⟩ : Str) == ⟨(ends b).toArray⟩) := by
    rw [Bool.eq_iff_iff]
    simp only [beq_iff_eq, Str.mk.injEq]
    constructor
    · intro h
      have : quote a = quote b := by simpa using h
      rw [dots_inj _ _ _ this]
    · intro h
      have : ends a = ends b := by simpa using h
      unfold quote
      rw [this]
  rw [e1]
  have e2 : decide ((⟨(quote a).toArray⟩ : Str).cps.toList < (⟨(quote b).toArray⟩ : Str).cps.toList) = decide ((⟨(ends a).toArray⟩ : Str).cps.toList < (⟨(ends b).toArray⟩ : Str).cps.toList) := dots_lt (ends a) (ends b) true
  rw [e2]
theorem IsOf.lt_eq {ms : List (List Nat)} {x y u v : It} (hx : IsOf quote ms x) (hy : IsOf quote ms y) (hu : IsOf ends ms u) (hv : IsOf ends ms v) (e1 : x.p = u.p) (e2 : y.p = v.p) : x.lt y = u.lt v := by
  obtain ⟨k, m, a, b, c⟩ := hx
  obtain ⟨k2, m2, a2, b2, c2⟩ := hy
  obtain ⟨k3, m3, a3, b3, c3⟩ := hu
  obtain ⟨k4, m4, a4, b4, c4⟩ := hv
  have : k3 = k := by omega
  subst this
  have : k4 = k2 := by omega
  subst this
  rw [b] at b3
  rw [b2] at b4
  cases b3; cases b4
  unfold It.lt
  rw [c, c2, c3, c4, quote_lt, e1, e2]

structure Inv (ms : List (List Nat)) (hl bl : List It) : Prop where
  heap : HeapL It.lt 0 hl
  perm : (hl.map It.p).Perm (bl.map It.p)
  nd : (bl.map It.p).Nodup
  hq : ∀ x ∈ hl, IsOf quote ms x
  bq : ∀ x ∈ bl, IsOf ends ms x
theorem Inv.len {ms : List (List Nat)} {hl bl : List It} (I : Inv ms hl bl) : hl.length = bl.length := by simpa using I.perm.length_eq
theorem Inv.sort {ms : List (List Nat)} {hl bl bl' : List It} (I : Inv ms hl bl) (h : SortOf bl bl') : Inv ms hl bl' where
  heap := I.heap
  perm := I.perm.trans (h.1.map It.p).symm
  nd := (h.1.map It.p).nodup_iff.2 I.nd
  hq := I.hq
  bq x hx := I.bq x (h.1.subset hx)
theorem Inv.top {ms : List (List Nat)} {hl bl : List It} {b : It} (I : Inv ms hl (b :: bl)) (h : ∀ y ∈ bl, y.lt b = false) (h0 : 0 < hl.length) : hl[0].p = b.p := by
  have hr : hl[0] ∈ hl := List.getElem_mem h0
  -- the heap's pair of b's place
  have m1 : b.p ∈ hl.map It.p := I.perm.symm.subset (by simp)
  obtain ⟨y, hy, ey⟩ := List.mem_map.mp m1
  have m2 : hl[0].p ∈ (b :: bl).map It.p := I.perm.subset (List.mem_map.mpr ⟨_, hr, rfl⟩)
  obtain ⟨z, hz, ez⟩ := List.mem_map.mp m2
  have l1 := heap_least ltP_ord I.heap h0 hy
  rw [(I.hq y hy).lt_eq (I.hq _ hr) (I.bq b (.head _)) (I.bq z hz) ey ez.symm] at l1
  rcases List.mem_cons.mp hz with rfl | hz'
  · exact ez.symm
  · have l2 := h z hz'
    by_cases e : z.p = b.p
    · rw [← ez, e]
    · have := ltP_total e l2
      rw [l1] at this
      cases this
theorem map_set_perm {l : List Int} {b : Int} {r : List Int} (h0 : 0 < l.length) (hp : l.Perm (b :: r)) (e : l[0] = b) (y : Int) : (l.set 0 y).Perm (y :: r) := by
  match l, h0 with
  | x :: l', _ =>
    simp only [List.getElem_cons_zero] at e
    subst e
    simp only [List.set_cons_zero]
    exact (List.Perm.cons y ((List.perm_cons x).1 hp))
theorem Inv.pop {ms : List (List Nat)} {l0 bl : List It} {y b : It} (I : Inv ms (l0 ++ [y]) (b :: bl)) (h0 : 0 < l0.length) (e : l0[0].p = b.p) : Inv ms (siftup It.lt (l0.set 0 y) 0) bl where
  heap := siftup_heap ltP_ord (by rw [List.length_set]; exact h0) (heap_set0 (heap_init rfl I.heap))
  perm := by
    refine ((siftup_perm (lt := It.lt) (l0.set 0 y) 0).map It.p).trans ?_
    match l0, h0, e, I with
    | x :: l', _, e, I =>
      simp only [List.getElem_cons_zero] at e
      have := I.perm
      simp only [List.cons_append, List.map_cons, List.map_append, List.map_nil, e] at this
      have := (List.perm_cons b.p).1 this
      simp only [List.set_cons_zero, List.map_cons]
      refine List.Perm.trans ?_ this
      exact (List.perm_append_comm (l₁ := [y.p])).trans (List.Perm.refl _)
  nd := (List.nodup_cons.1 I.nd).2
  hq x hx := I.hq x (by
    have := siftup_mem hx
    rcases List.mem_or_eq_of_mem_set this with h | h
    · exact List.mem_append_left _ h
    · exact List.mem_append_right _ (by simp [h]))
  bq x hx := I.bq x (.tail _ hx)
theorem Inv.push {ms : List (List Nat)} {hl bl : List It} {b y nb : It} {m : List Nat} (I : Inv ms hl (b :: bl)) (h0 : 0 < hl.length) (e : hl[0].p = b.p) (yp : y.p = ms.length) (yq : y.q = ⟨(quote m).toArray⟩) (np : nb.p = ms.length) (nq : nb.q = ⟨(ends m).toArray⟩) :
    Inv (ms ++ [m]) (siftup It.lt (hl.set 0 y) 0) (bl ++ [nb]) where
  heap := siftup_heap ltP_ord (by rw [List.length_set]; exact h0) (heap_set0 I.heap)
  perm := by
    refine ((siftup_perm (lt := It.lt) (hl.set 0 y) 0).map It.p).trans ?_
    rw [List.map_set]
    refine (map_set_perm (by simpa using h0) I.perm (by simpa using e) y.p).trans ?_
    rw [List.map_append, List.map_cons, List.map_nil, yp, np]
    exact List.perm_append_comm (l₁ := [(ms.length : Int)])
  nd := by
    rw [List.map_append, List.map_cons, List.map_nil]
    have h1 := (List.nodup_cons.1 I.nd).2
    refine List.nodup_append.2 ⟨h1, by simp, fun a ha c hc => ?_⟩
    obtain ⟨x, hx, rfl⟩ := List.mem_map.mp ha
    simp only [List.mem_singleton] at hc
    subst hc
    obtain ⟨k, m', a, b, _⟩ := I.bq x (.tail _ hx)
    rw [a, np]
    have := (List.getElem?_eq_some_iff.1 b).1
    omega
  hq x hx := by
    rcases List.mem_or_eq_of_mem_set (siftup_mem hx) with h | h
    · exact (I.hq x h).more _
    · subst h
      exact ⟨ms.length, m, yp, by simp, yq⟩
  bq x hx := by
    rcases List.mem_append.mp hx with h | h
    · exact (I.bq x (.tail _ h)).more _
    · simp only [List.mem_singleton] at h
      subst h
      exact ⟨ms.length, m, np, by simp, nq⟩
theorem Inv.start {ms : List (List Nat)} {hl bl : List It} (hp : hl.map It.p = bl.map It.p) (nd : (bl.map It.p).Nodup) (hq : ∀ x ∈ hl, IsOf quote ms x) (bq : ∀ x ∈ bl, IsOf ends ms x) : Inv ms (heapify It.lt hl) bl where
  heap := heapify_heap ltP_ord hl
  perm := ((heapify_perm hl).map It.p).trans (by rw [hp])
  nd := nd
  hq x hx := hq x ((heapify_perm hl).subset hx)
  bq := bq
end Mine
end

/- part RevR -/
section
open PySem PySem.W PyProof.Rows
set_option Elab.async false
set_option maxRecDepth 100000
namespace Mine
theorem sub_ri_reversed : isSubtype (.type "range_iterator") (.type "reversed") = pure false := by rw [isSubtype_type]; kernel_rfl
section
variable {prog : Program} {w : World} {A : Around} {E : Value → Shared → Prop} {s : Shared}
abbrev riObj (x left step : Int) : Obj := { cls := .type "range_iterator", dict := none, data := .fields #[rawInt x, rawInt left, rawInt step], slots := #[] }
theorem call_range_reversed {r : Addr} {k : Int} {t u v : Tok} {Q : Value → Shared → Prop} (hr : IsRange s.heap r 0 k 1 t u v) (h0 : 0 ≤ k) (h1 : k < 1000)
    (h : Q (.ref s.heap.objs.size) { s with heap := s.heap.push (riObj (k - 1) k (-1)) }) : wpAny (model prog w) A (call (.builtin "range.__reversed__") [.ref r]) Q E s := by
  refine wpAny_call_entry PySem.F.slot_range_reversed ⟨_, hr, rfl⟩ PySem.F.entry_range_reversed ?_ (PySem.F.args_range_reversed_1 _)
  unfold Builtin.«range.__reversed__»
  refine wpAny_bind (wpAny_of_eq (a := Value.ref r) rfl ?_)
  unfold Builtin.Range.rangeFields
  refine wpAny_bind ?_
  refine wpAny_bind (wpAny_field hr rfl rfl ?_)
  refine wpAny_bind (wpAny_of_eq (a := some 0) rfl ?_)
  refine wpAny_bind (wpAny_field hr rfl rfl ?_)
  refine wpAny_bind (wpAny_of_eq (a := some k) rfl ?_)
  refine wpAny_bind (wpAny_field hr rfl rfl ?_)
  refine wpAny_bind (wpAny_of_eq (a := some 1) rfl ?_)
  refine wpAny_pure ?_
  have hn : Builtin.Range.rangeSize 0 k 1 = k := by
    unfold Builtin.Range.rangeSize
    rw [if_pos (by decide)]
    by_cases q : 0 < k
    · rw [if_pos q]; omega
    · rw [if_neg q]; omega
  have hs : (Builtin.Range.rangeFitsLong 0 && Builtin.Range.rangeFitsLong k && Builtin.Range.rangeFitsLong 1 && Builtin.Range.rangeFitsLong (-1) && Builtin.Range.rangeFitsLong (0 - 1) && Builtin.Range.rangeFitsLong k) = true := by
    unfold Builtin.Range.rangeFitsLong
    simp only [Bool.and_eq_true, decide_eq_true_eq]
    omega
  dsimp only
  rw [hn, hs]
  simp only [Bool.not_true, Bool.false_eq_true, if_false, if_true]
  have e : (0 : Int) + (k - 1) * 1 = k - 1 := by omega
  rw [e]
  refine wpAny_bind (wpAny_newObj_type (wpAny_pure ⟨_, rfl, h⟩))

theorem code_reversed_new_range {r : Addr} {k : Int} {t u v : Tok} {Q₁ : Value → Shared → Prop} (hr : IsRange s.heap r 0 k 1 t u v) (h0 : 0 ≤ k) (h1 : k < 1000)
    (h : Q₁ (.ref s.heap.objs.size) { s with heap := s.heap.push (riObj (k - 1) k (-1)) }) :
    codeAny (model prog w) A (.call (.builtin "reversed.__new__") ⟨[.type "reversed", .ref r], []⟩) (wants Q₁ E) s := by
  have hT : s.TypeIs (.ref r) "range" := ⟨_, hr, rfl⟩
  refine codeAny_of_tree ?_
  show wpAny _ A.in1 (do checkBuiltinCall "reversed.__new__" ⟨[.type "reversed", .ref r], []⟩; again (.builtin "reversed.__new__" ⟨[.type "reversed", .ref r], []⟩)) _ _ s
  refine wpAny_bind (wpAny_of_eq (PySem.F.newCall_reversed_1 _) (wpAny_pure ⟨plainId_quiet PySem.F.plain_reversed_new _, codeAny_builtin PySem.F.entry_reversed_new ?_⟩))
  rw [Around.under_plainId PySem.F.plain_reversed_new _]
  unfold Builtin.«reversed.__new__»
  refine wpAny_bind (wpAny_of_eq (newClass_reversed _) ?_)
  try dsimp only
  refine wpAny_bind (wpAny_of_eq (a := ()) (by first | rfl | kernel_rfl) ?_)
  refine wpAny_bind (wpAny_of_eq (a := ()) (by first | rfl | kernel_rfl) ?_)
  try dsimp only
  refine wpAny_bind (wpAny_specialOf hT PySem.F.slot_range_reversed.lookup ?_)
  try dsimp only
  refine wpAny_bind (wpAny_of_eq (PySem.F.slot_range_reversed.bind _) ?_)
  try dsimp only
  first
  | rw [if_neg (show ¬ ((Value.builtin "range.__reversed__" == Value.none) = true) from Bool.false_ne_true)]
  | (show wpAny _ _ (if (Value.builtin "range.__reversed__" == Value.none) = true then _ else _) _ _ _; rw [if_neg (show ¬ ((Value.builtin "range.__reversed__" == Value.none) = true) from Bool.false_ne_true)])
  refine wpAny_bind (wpAny_rule ?_)
  refine wpAny_bind (m := runValue (.call (.builtin "range.__reversed__") ⟨[.ref r], []⟩)) (show wpAny _ _ (call (.builtin "range.__reversed__") [.ref r]) _ _ _ from call_range_reversed hr h0 h1 ?_)
  first
  | exact wpAny_pure h
  | exact wpAny_bind (wpAny_pure (wpAny_pure h))

theorem call_reversed_range {r : Addr} {k : Int} {t u v : Tok} {Q : Value → Shared → Prop} (hr : IsRange s.heap r 0 k 1 t u v) (h0 : 0 ≤ k) (h1 : k < 1000)
    (h : Q (.ref s.heap.objs.size) { s with heap := s.heap.push (riObj (k - 1) k (-1)) }) : wpAny (model prog w) A (call (.type "reversed") [.ref r]) Q E s := by
  refine callType_other (U := "range_iterator") (Q₁ := fun obj s₁ => obj = .ref s.heap.objs.size ∧ s₁ = { s with heap := s.heap.push (riObj (k - 1) k (-1)) }) (by decide +kernel) PySem.F.create_reversed ⟨_, _, PySem.F.mro_reversed⟩ PySem.F.made_reversed sub_ri_reversed (PySem.F.typeCall_reversed_1 _) (code_reversed_new_range hr h0 h1 ⟨rfl, rfl⟩) ?_
  rintro obj s₁ ⟨rfl, rfl⟩
  exact ⟨⟨_, Heap.get?_push_size _ rfl, rfl⟩, h⟩
end
section
variable {prog : Program} {w : World} {A : Around} {E : Value → Shared → Prop} {s : Shared} {env : Env} {h₀ : Heap} {x : Str} {body : List Stmt} {Q : Flow → Shared → Prop}
/-- a for over a fresh range iterator -/
theorem loopR {a c : Int} {n : Nat} {m : Str → Option Value} {news : List (Addr × Obj)} (hh : A.handled = none) (F : Fr h₀ env.locals s.heap m) (N : News h₀ env.locals s.heap news)
    (J : Nat → (Str → Option Value) → List (Addr × Obj) → Prop) (hj : J 0 m news)
    (turn : ∀ i t m₁ news₁ h tk own, i < n → J i m₁ news₁ → (∀ p ∈ news₁, p.1 ≠ s.heap.objs.size) → (∀ p ∈ own, p.1 = s.heap.objs.size) → Fr h₀ env.locals h (fun y => if y = x then some (.int (a + i * c) t) else m₁ y) → News h₀ env.locals h (own ++ news₁) →
      wpAny (model prog w) A (execs body env) (LoopStepV h₀ env.locals [s.heap.objs.size] own (J (i + 1)) { s with heap := h, toks := tk } (fun v s' => Q (.ret v) s') fun s' => Q .next s') E { s with heap := h, toks := tk })
    (done : ∀ h' tk m' news', Fr h₀ env.locals h' m' → News h₀ env.locals h' news' → J n m' news' → Q .next { s with heap := h', toks := tk }) :
    LoopAtV prog w A h₀ env x body Q E (.ref s.heap.objs.size) { s with heap := s.heap.push (riObj a n c) } := by
  have F₂ := F.push (riObj a n c)
  have N₂ := N.push F (riObj a n c)
  have hz := N₂ _ (.head _)
  have hnI : ∀ p ∈ news, p.1 ≠ s.heap.objs.size := fun p hp => Nat.ne_of_lt (Heap.lt_size (N p hp).1)
  refine ⟨s.heap.objs.size, [s.heap.objs.size], [s.heap.objs.size], n, _, _, m, news, J, rfl, Walks.range hh _ a c n, ?_, ?_, ?_, ?_, F₂, ?_, hj, ?_, ?_⟩
  · simp only [List.mem_singleton]; exact fun e => hz.2.1 e.symm
  · intro b hb; rw [List.mem_singleton.mp hb]; exact hz.2.2
  · intro p hp; simp only [List.mem_singleton]; exact hnI p hp
  · show IsRangeIter _ _ _ _ _
    have e1 : a + ((0 : Nat) : Int) * c = a := by simp
    have e2 : (n : Int) - ((0 : Nat) : Int) = n := by simp
    rw [e1, e2]
    exact hz.1
  · exact fun p hp => N₂ p (.tail _ hp)
  · rintro i v m₁ news₁ s₁ own ⟨h, tk, rfl⟩ hi ⟨t, rfl⟩ hJ hnw hown _ _ _ F₁ N₁
    exact turn i t m₁ news₁ h tk own hi hJ (fun p hp e => hnw p hp (by simp [e])) (fun p hp => List.mem_singleton.mp (hown p hp)) F₁ N₁
  · intro h' tk m' news' F' N' _ hJ
    exact done h' tk m' news' F' N' hJ
/-- a for over a list of the ledger's, by a fresh iterator -/
theorem loopL {vs : List Value} {n : Nat} {D : Addr} {m : Str → Option Value} {news : List (Addr × Obj)} (hh : A.handled = none) (F : Fr h₀ env.locals s.heap m) (N : News h₀ env.locals s.heap news) (hm : (D, W.listOf vs.toArray n) ∈ news)
    (J : Nat → (Str → Option Value) → List (Addr × Obj) → Prop) {new1 : List (Addr × Obj)} (hsub : ∀ p ∈ new1, p ∈ news) (hj : J 0 m new1)
    (turn : ∀ i v m₁ news₁ h tk own, vs[i]? = some v → J i m₁ news₁ → (∀ p ∈ news₁, p.1 ≠ s.heap.objs.size) → (∀ p ∈ own, p.1 = s.heap.objs.size ∨ p.1 = D) → Fr h₀ env.locals h (fun y => if y = x then some v else m₁ y) → News h₀ env.locals h (own ++ news₁) →
      wpAny (model prog w) A (execs body env) (LoopStepV h₀ env.locals [s.heap.objs.size] own (J (i + 1)) { s with heap := h, toks := tk } (fun v s' => Q (.ret v) s') fun s' => Q .next s') E { s with heap := h, toks := tk })
    (done : ∀ h' tk m' news', Fr h₀ env.locals h' m' → News h₀ env.locals h' news' → J vs.length m' news' → Q .next { s with heap := h', toks := tk }) :
    LoopAtV prog w A h₀ env x body Q E (.ref s.heap.objs.size) { s with heap := s.heap.push { cls := .type "list_iterator", data := .fields #[.ref D, .int 0 0] } } := by
  have F₂ := F.push { cls := .type "list_iterator", data := .fields #[.ref D, .int 0 0] }
  have N₂ := N.push F { cls := .type "list_iterator", data := .fields #[.ref D, .int 0 0] }
  have hz := N₂ _ (.head _)
  have hD := N₂ _ (.tail _ hm)
  have hnI : ∀ p ∈ news, p.1 ≠ s.heap.objs.size := fun p hp => Nat.ne_of_lt (Heap.lt_size (N p hp).1)
  refine ⟨s.heap.objs.size, [s.heap.objs.size, D], [s.heap.objs.size], vs.toArray.size, _, _, m, new1, J, rfl, Walks.list hh _ D (hnI _ hm) vs.toArray, ?_, ?_, ?_, ?_, F₂, ?_, hj, ?_, ?_⟩
  · simp only [List.mem_cons, List.not_mem_nil, or_false]
    rintro (e | e)
    · exact hz.2.1 e.symm
    · exact hD.2.1 e.symm
  · intro b hb; rw [List.mem_singleton.mp hb]; exact hz.2.2
  · intro p hp; simp only [List.mem_singleton]; exact hnI p (hsub p hp)
  · exact ⟨⟨_, hz.1, rfl, rfl⟩, ⟨_, hD.1, rfl, n, rfl⟩⟩
  · exact fun p hp => N₂ p (.tail _ (hsub p hp))
  · rintro i v m₁ news₁ s₁ own ⟨h, tk, rfl⟩ hi hv hJ hnw hown _ _ _ F₁ N₁
    refine turn i v m₁ news₁ h tk own (by simpa using hv) hJ (fun p hp e => hnw p hp (by simp [e])) (fun p hp => ?_) F₁ N₁
    have := hown p hp
    simpa using this
  · intro h' tk m' news' F' N' _ hJ
    rw [List.size_toArray] at hJ
    exact done h' tk m' news' F' N' hJ
end
end Mine
end

/- part RunA -/
section
/- the ledger of the law's run -/
open PySem PySem.W PyProof.Rows
set_option Elab.async false
set_option maxRecDepth 100000
namespace Mine
section
variable {prog : Program} {w : World} {A : Around} {E : Value → Shared → Prop} {s : Shared} {env : Env} {h₀ : Heap} {x : Str} {body : List Stmt} {Q : Flow → Shared → Prop}
/-- a for over a fresh range iterator; the turn is told that the iterator stands in its own part -/
theorem loopR2 {a c : Int} {n : Nat} {m : Str → Option Value} {news : List (Addr × Obj)} (hh : A.handled = none) (F : Fr h₀ env.locals s.heap m) (N : News h₀ env.locals s.heap news)
    (J : Nat → (Str → Option Value) → List (Addr × Obj) → Prop) (hj : J 0 m news)
    (turn : ∀ i t m₁ news₁ h tk own, i < n → J i m₁ news₁ → (∀ p ∈ news₁, p.1 ≠ s.heap.objs.size) → (∀ p ∈ own, p.1 = s.heap.objs.size) → (∃ o, (s.heap.objs.size, o) ∈ own) → Fr h₀ env.locals h (fun y => if y = x then some (.int (a + i * c) t) else m₁ y) → News h₀ env.locals h (own ++ news₁) →
      wpAny (model prog w) A (execs body env) (LoopStepV h₀ env.locals [s.heap.objs.size] own (J (i + 1)) { s with heap := h, toks := tk } (fun v s' => Q (.ret v) s') fun s' => Q .next s') E { s with heap := h, toks := tk })
    (done : ∀ h' tk m' news', Fr h₀ env.locals h' m' → News h₀ env.locals h' news' → J n m' news' → Q .next { s with heap := h', toks := tk }) :
    LoopAtV prog w A h₀ env x body Q E (.ref s.heap.objs.size) { s with heap := s.heap.push (riObj a n c) } := by
  have F₂ := F.push (riObj a n c)
  have N₂ := N.push F (riObj a n c)
  have hz := N₂ _ (.head _)
  have hnI : ∀ p ∈ news, p.1 ≠ s.heap.objs.size := fun p hp => Nat.ne_of_lt (Heap.lt_size (N p hp).1)
  refine ⟨s.heap.objs.size, [s.heap.objs.size], [s.heap.objs.size], n, _, _, m, news, J, rfl, Walks.range hh _ a c n, ?_, ?_, ?_, ?_, F₂, ?_, hj, ?_, ?_⟩
  · simp only [List.mem_singleton]; exact fun e => hz.2.1 e.symm
  · intro b hb; rw [List.mem_singleton.mp hb]; exact hz.2.2
  · intro p hp; simp only [List.mem_singleton]; exact hnI p hp
  · show IsRangeIter _ _ _ _ _
    have e1 : a + ((0 : Nat) : Int) * c = a := by simp
    have e2 : (n : Int) - ((0 : Nat) : Int) = n := by simp
    rw [e1, e2]
    exact hz.1
  · exact fun p hp => N₂ p (.tail _ hp)
  · rintro i v m₁ news₁ s₁ own ⟨h, tk, rfl⟩ hi ⟨t, rfl⟩ hJ hnw hown _ hin hst F₁ N₁
    exact turn i t m₁ news₁ h tk own hi hJ (fun p hp e => hnw p hp (by simp [e])) (fun p hp => List.mem_singleton.mp (hown p hp)) ⟨_, hin _ (.head _) hz.2.2 _ hst⟩ F₁ N₁
  · intro h' tk m' news' F' N' _ hJ
    exact done h' tk m' news' F' N' hJ
end

structure Apart (news : List (Addr × Obj)) (ML HL BL : Addr) : Prop where
  mh : ML ≠ HL
  mb : ML ≠ BL
  hb : HL ≠ BL
  nm : ∀ p ∈ news, p.1 ≠ ML
  nh : ∀ p ∈ news, p.1 ≠ HL
  nb : ∀ p ∈ news, p.1 ≠ BL
structure Run (news : List (Addr × Obj)) (ML HL BL : Addr) (ms : List (Str × Tok)) (hl bl : List It) (nm nh nb : Nat) (new1 : List (Addr × Obj)) : Prop where
  sub : ∀ p ∈ news, p ∈ new1
  m : (ML, W.listOf (strValues ms).toArray nm) ∈ new1
  h : (HL, W.listOf (hl.map It.v).toArray nh) ∈ new1
  b : (BL, W.listOf (bl.map It.v).toArray nb) ∈ new1
  hi : InN new1 hl
  bi : InN new1 bl
section
variable {news new1 new2 : List (Addr × Obj)} {ML HL BL L : Addr} {h₀ g : Heap} {ms : List (Str × Tok)} {hl bl : List It} {nm nh nb : Nat}
theorem Run.mono (R : Run news ML HL BL ms hl bl nm nh nb new1) (h : ∀ p ∈ new1, p ∈ new2) : Run news ML HL BL ms hl bl nm nh nb new2 :=
  ⟨fun p hp => h p (R.sub p hp), h _ R.m, h _ R.h, h _ R.b, fun x hx => h _ (R.hi x hx), fun x hx => h _ (R.bi x hx)⟩
theorem pair_off {x : It} {vs : Array Value} {n : Nat} {D : Addr} (N : News h₀ L g new1) (hx : (x.a, x.o) ∈ new1) (hD : (D, W.listOf vs n) ∈ new1) : x.a ≠ D :=
  news_ne N hx hD (by unfold It.o pairO W.listOf; simp)
theorem Run.setH (R : Run news ML HL BL ms hl bl nm nh nb new1) (P : Apart news ML HL BL) (N : News h₀ L g new1) {hl' : List It} {n' : Nat} (hx : ∀ x ∈ hl', (x.a, x.o) ∈ new1) :
    Run news ML HL BL ms hl' bl nm n' nb (setN HL (W.listOf (hl'.map It.v).toArray n') new1) :=
  ⟨fun p hp => mem_setN_ne (R.sub p hp) (P.nh p hp), mem_setN_ne R.m P.mh, mem_setN_self R.h, mem_setN_ne R.b P.hb.symm, fun x q => mem_setN_ne (hx x q) (pair_off N (hx x q) R.h), fun x q => mem_setN_ne (R.bi x q) (pair_off N (R.bi x q) R.h)⟩
theorem Run.setB (R : Run news ML HL BL ms hl bl nm nh nb new1) (P : Apart news ML HL BL) (N : News h₀ L g new1) {bl' : List It} {n' : Nat} (hx : ∀ x ∈ bl', (x.a, x.o) ∈ new1) :
    Run news ML HL BL ms hl bl' nm nh n' (setN BL (W.listOf (bl'.map It.v).toArray n') new1) :=
  ⟨fun p hp => mem_setN_ne (R.sub p hp) (P.nb p hp), mem_setN_ne R.m P.mb, mem_setN_ne R.h P.hb, mem_setN_self R.b, fun x q => mem_setN_ne (R.hi x q) (pair_off N (R.hi x q) R.b), fun x q => mem_setN_ne (hx x q) (pair_off N (hx x q) R.b)⟩
theorem Run.setM (R : Run news ML HL BL ms hl bl nm nh nb new1) (P : Apart news ML HL BL) (N : News h₀ L g new1) {ms' : List (Str × Tok)} {n' : Nat} :
    Run news ML HL BL ms' hl bl n' nh nb (setN ML (W.listOf (strValues ms').toArray n') new1) :=
  ⟨fun p hp => mem_setN_ne (R.sub p hp) (P.nm p hp), mem_setN_self R.m, mem_setN_ne R.h P.mh.symm, mem_setN_ne R.b P.mb.symm, fun x q => mem_setN_ne (R.hi x q) (pair_off N (R.hi x q) R.m), fun x q => mem_setN_ne (R.bi x q) (pair_off N (R.bi x q) R.m)⟩
theorem setN_sub {d : Addr} {o : Obj} (h : ∀ p ∈ new1, p ∈ new2) : ∀ p ∈ setN d o new1, p ∈ setN d o new2 := fun p hp => by
  obtain ⟨q, hq, rfl⟩ := List.mem_map.mp hp
  exact List.mem_map.mpr ⟨q, h q hq, rfl⟩
end
theorem strGet {ms : List (Str × Tok)} {k : Int} {j : Nat} {x : Str × Tok} (e : k = j) (h : ms[j]? = some x) : (strValues ms)[k.toNat]? = some (.str x.1 x.2) := by
  subst e
  unfold strValues
  simp [h]
theorem Run.filter {news new1 : List (Addr × Obj)} {ML HL BL I : Addr} {ms : List (Str × Tok)} {hl bl : List It} {nm nh nb : Nat} (R : Run news ML HL BL ms hl bl nm nh nb new1) (h0 : ∀ p ∈ news, p.1 ≠ I) (h1 : ML ≠ I) (h2 : HL ≠ I) (h3 : BL ≠ I) (h4 : ∀ x ∈ hl, x.a ≠ I) (h5 : ∀ x ∈ bl, x.a ≠ I) :
    Run news ML HL BL ms hl bl nm nh nb (new1.filter fun p => decide (p.1 ≠ I)) := by
  have k : ∀ p ∈ new1, p.1 ≠ I → p ∈ new1.filter fun p => decide (p.1 ≠ I) := fun p hp e => List.mem_filter.mpr ⟨hp, by simpa using e⟩
  exact ⟨fun p hp => k p (R.sub p hp) (h0 p hp), k _ R.m h1, k _ R.h h2, k _ R.b h3, fun x hx => k _ (R.hi x hx) (h4 x hx), fun x hx => k _ (R.bi x hx) (h5 x hx)⟩
theorem snoc_v (hl : List It) (x : It) : hl.map It.v ++ [Value.ref x.a] = (hl ++ [x]).map It.v := by rw [List.map_append]; rfl
/-- the mails' texts -/
noncomputable def txt (ms : List (Str × Tok)) : List (List Nat) := ms.map fun x => x.1.cps.toList
theorem txt_at {ms : List (Str × Tok)} {k : Nat} {m : List Nat} (h : (txt ms)[k]? = some m) : ∃ x, ms[k]? = some x ∧ x.1.cps.toList = m := by
  unfold txt at h
  rw [List.getElem?_map] at h
  cases e : ms[k]? with
  | none => rw [e] at h; cases h
  | some x => rw [e] at h; exact ⟨x, rfl, by simpa using h⟩
/-- the first i places -/
noncomputable def upTo (i : Nat) : List Int := (List.range i).map fun (k : Nat) => (k : Int)
theorem upTo_succ (i : Nat) : upTo (i + 1) = upTo i ++ [(i : Int)] := by unfold upTo; rw [List.range_succ, List.map_append]; rfl
theorem upTo_nodup (i : Nat) : (upTo i).Nodup := by
  unfold upTo
  rw [List.nodup_iff_pairwise_ne, List.pairwise_map]
  exact (List.nodup_iff_pairwise_ne.1 List.nodup_range).imp fun h c => h (by omega)
/-- the pairs of the first i places -/
structure Laid (ms : List (Str × Tok)) (i : Nat) (hl bl : List It) : Prop where
  hp : hl.map It.p = upTo i
  bp : bl.map It.p = upTo i
  hq : ∀ x ∈ hl, IsOf quote (txt ms) x
  bq : ∀ x ∈ bl, IsOf ends (txt ms) x
theorem Laid.hlen {ms : List (Str × Tok)} {i : Nat} {hl bl : List It} (l : Laid ms i hl bl) : hl.length = i := by simpa [upTo] using congrArg List.length l.hp
theorem Laid.blen {ms : List (Str × Tok)} {i : Nat} {hl bl : List It} (l : Laid ms i hl bl) : bl.length = i := by simpa [upTo] using congrArg List.length l.bp
theorem Laid.more {ms : List (Str × Tok)} {i : Nat} {hl bl : List It} {x y : It} {m : Str × Tok} (l : Laid ms i hl bl) (hm : ms[i]? = some m) (xp : x.p = i) (xq : x.q = ⟨(quote m.1.cps.toList).toArray⟩) (yp : y.p = i) (yq : y.q = ⟨(ends m.1.cps.toList).toArray⟩) :
    Laid ms (i + 1) (hl ++ [x]) (bl ++ [y]) where
  hp := by rw [List.map_append, l.hp, upTo_succ, List.map_cons, xp]; rfl
  bp := by rw [List.map_append, l.bp, upTo_succ, List.map_cons, yp]; rfl
  hq z hz := by
    rcases List.mem_append.mp hz with h | h
    · exact l.hq z h
    · rw [List.mem_singleton.mp h]; exact ⟨i, _, xp, by unfold txt; rw [List.getElem?_map, hm]; rfl, xq⟩
  bq z hz := by
    rcases List.mem_append.mp hz with h | h
    · exact l.bq z h
    · rw [List.mem_singleton.mp h]; exact ⟨i, _, yp, by unfold txt; rw [List.getElem?_map, hm]; rfl, yq⟩
theorem Laid.inv {ms : List (Str × Tok)} {i : Nat} {hl bl : List It} (l : Laid ms i hl bl) : Inv (txt ms) (heapify It.lt hl) bl :=
  Inv.start (l.hp.trans l.bp.symm) (l.bp ▸ upTo_nodup i) l.hq l.bq
end Mine
end

/- part PairR -/
section
/- rules for the pairs of the ledger -/
open PySem PySem.W PyProof.Rows
set_option Elab.async false
set_option maxRecDepth 100000
namespace Mine
section
variable {prog : Program} {w : World} {A : Around} {E : Value → Shared → Prop} {s : Shared} {h₀ : Heap} {L : Addr} {m : Str → Option Value} {news : List (Addr × Obj)} {u : Tok}
theorem It.tup {x : It} (N : News h₀ L s.heap news) (hx : (x.a, x.o) ∈ news) : IsTup s.heap x.a #[.str x.q x.t, .int x.p x.u] := ⟨_, (N _ hx).1, rfl, _, rfl⟩
theorem pair_at1 {x : It} {value slice : PySem.Expr} {Q : Value → Shared → Prop} (N : News h₀ L s.heap news) (hx : (x.a, x.o) ∈ news) (h : Q (.int x.p x.u) s)
    (hs : subscripted slice false x.v (.int 1 u) = operate [x.v, .int 1 u] (getItem x.v (.int 1 u)) := by with_unfolding_all rfl) :
    wpAny (model prog w) A (subscriptTail value slice x.v (.int 1 u)) Q E s :=
  tail_any (It.tup N hx).typeIs slot_tuple_getitem.lookup (getItem_tuple (It.tup N hx) (by decide) (by decide) (j := 1) rfl rfl h) hs
end
end Mine
end

/- part Round2 -/
section
/- plain: one round as a whole -/
open PySem PySem.W PyProof.Rows
namespace Mine
noncomputable def wt (ms : List (List Nat)) (bl : List It) : Nat := (bl.map fun x => (ms.getD x.p.toNat []).length).sum
theorem wt_perm {ms : List (List Nat)} {bl bl' : List It} (h : bl'.Perm bl) : wt ms bl' = wt ms bl := (h.map _).sum_nat
theorem wt_more {ms : List (List Nat)} {bl : List It} {m : List Nat} (h : ∀ x ∈ bl, IsOf ends ms x) : wt (ms ++ [m]) bl = wt ms bl := by
  unfold wt
  congr 1
  apply List.map_congr_left
  intro x hx
  obtain ⟨k, mm, a, b, _⟩ := h x hx
  have e : x.p.toNat = k := by omega
  rw [e, List.getD_eq_getElem?_getD, List.getD_eq_getElem?_getD, List.getElem?_append_left (List.getElem?_eq_some_iff.1 b).1]
theorem mem_le_sum : ∀ {l : List Nat} {a : Nat}, a ∈ l → a ≤ l.sum
  | [], _, h => nomatch h
  | b :: r, a, h => by
    rw [List.sum_cons]
    rcases List.mem_cons.mp h with e | e
    · omega
    · have := mem_le_sum e; omega
theorem wt_le {ms : List (List Nat)} {bl : List It} {x : It} {k : Nat} {m : List Nat} (hx : x ∈ bl) (e : x.p = k) (hm : ms[k]? = some m) : m.length ≤ wt ms bl := by
  unfold wt
  have : (ms.getD x.p.toNat []).length ∈ bl.map fun x => (ms.getD x.p.toNat []).length := List.mem_map.mpr ⟨x, hx, rfl⟩
  have q := mem_le_sum this
  have e2 : x.p.toNat = k := by omega
  rw [e2, List.getD_eq_getElem?_getD, hm] at q
  exact q
structure Inv2 (ms : List (List Nat)) (hl bl : List It) : Prop where
  inv : Inv ms hl bl
  last : ((ms.length : Int) - 1) ∈ bl.map It.p
  wt : wt ms bl ≤ 54
  cnt : ms.length + bl.length ≤ 36
theorem Inv2.round {ms : List (List Nat)} {hl bl bl' : List It} (I : Inv2 ms hl bl) (h2 : 2 ≤ bl.length) (hs : SortOf bl bl') :
    ∃ (b0 b1 y : It) (rest l0 : List It) (ka kb : Nat) (ma mb : List Nat), bl' = b0 :: b1 :: rest ∧ hl = l0 ++ [y] ∧ b0.p = (ka : Int) ∧ b1.p = (kb : Int) ∧ ms[ka]? = some ma ∧ ms[kb]? = some mb ∧ ma.length + mb.length ≤ 54 ∧
      ∃ h0 : 0 < l0.length, l0[0].p = (ka : Int) ∧ l0[0].q = ⟨(quote ma).toArray⟩ ∧ ∃ h1 : 0 < (siftup It.lt (l0.set 0 y) 0).length, (siftup It.lt (l0.set 0 y) 0)[0].p = (kb : Int) ∧ (siftup It.lt (l0.set 0 y) 0)[0].q = ⟨(quote mb).toArray⟩ ∧
        ∀ y' nb : It, y'.p = ms.length → y'.q = ⟨(quote (ma ++ mb)).toArray⟩ → nb.p = ms.length → nb.q = ⟨(ends (ma ++ mb)).toArray⟩ → Inv2 (ms ++ [ma ++ mb]) (siftup It.lt ((siftup It.lt (l0.set 0 y) 0).set 0 y') 0) (rest ++ [nb]) := by
  have hlen := hs.1.length_eq
  have I1 := I.inv.sort hs
  have hll := I1.len
  match bl', hlen, hs, I1, hll with
  | [], hlen, _, _, _ => simp at hlen; omega
  | [_], hlen, _, _, _ => simp at hlen; omega
  | b0 :: b1 :: rest, hlen, hs, I1, hll =>
    have hne : hl ≠ [] := by intro c; rw [c] at hll; simp at hll
    obtain ⟨l0, y, rfl⟩ : ∃ l0 y, hl = l0 ++ [y] := ⟨hl.dropLast, hl.getLast hne, (List.dropLast_concat_getLast hne).symm⟩
    have h0 : 0 < l0.length := by simp at hll; omega
    have p0 : ∀ z ∈ b1 :: rest, z.lt b0 = false := (List.pairwise_cons.1 hs.2).1
    have p1 : ∀ z ∈ rest, z.lt b1 = false := (List.pairwise_cons.1 (List.pairwise_cons.1 hs.2).2).1
    have t0 := I1.top p0 (by simp)
    rw [List.getElem_append_left h0] at t0
    have I2 := I1.pop h0 t0
    have h1 : 0 < (siftup It.lt (l0.set 0 y) 0).length := by rw [siftup_length, List.length_set]; exact h0
    have t1 := I2.top p1 h1
    obtain ⟨ka, ma, a1, a2, a3⟩ := I1.bq b0 (.head _)
    obtain ⟨kb, mb, c1, c2, c3⟩ := I1.bq b1 (.tail _ (.head _))
    obtain ⟨ka', ma', d1, d2, d3⟩ := I1.hq l0[0] (List.mem_append_left _ (List.getElem_mem h0))
    obtain ⟨kb', mb', e1, e2, e3⟩ := I2.hq _ (List.getElem_mem h1)
    have : ka' = ka := by omega
    subst this
    have : kb' = kb := by omega
    subst this
    rw [a2] at d2
    rw [c2] at e2
    cases d2; cases e2
    have w := I.wt
    rw [← wt_perm hs.1] at w
    have w2 : ma.length + (mb.length + Mine.wt ms rest) = Mine.wt ms (b0 :: b1 :: rest) := by
      unfold Mine.wt
      rw [List.map_cons, List.map_cons, List.sum_cons, List.sum_cons]
      have q1 : b0.p.toNat = ka' := by omega
      have q2 : b1.p.toNat = kb' := by omega
      rw [q1, q2, List.getD_eq_getElem?_getD, List.getD_eq_getElem?_getD, a2, c2]
      rfl
    refine ⟨b0, b1, y, rest, l0, ka', kb', ma, mb, rfl, rfl, a1, c1, a2, c2, by omega, h0, d1, d3, h1, e1, e3, fun y' nb yp yq np nq => ⟨I2.push h1 t1 yp yq np nq, ?_, ?_, ?_⟩⟩
    · rw [List.map_append, List.length_append]
      refine List.mem_append_right _ ?_
      rw [List.map_cons, np]
      simp
    · have r := wt_more (m := ma ++ mb) fun x hx => I1.bq x (.tail _ (.tail _ hx))
      have : Mine.wt (ms ++ [ma ++ mb]) (rest ++ [nb]) = Mine.wt (ms ++ [ma ++ mb]) rest + (ma ++ mb).length := by
        unfold Mine.wt
        rw [List.map_append, List.sum_append, List.map_cons]
        have q1 : nb.p.toNat = ms.length := by omega
        rw [q1, List.getD_eq_getElem?_getD]
        simp
      rw [this, r, List.length_append]
      omega
    · have := I.cnt
      simp only [List.length_append, List.length_cons, List.length_nil] at hlen ⊢
      omega
theorem Inv2.one {ms : List (List Nat)} {hl bl : List It} (I : Inv2 ms hl bl) (h1 : bl.length ≤ 1) : ∃ (x : It) (m : List Nat), hl = [x] ∧ ms ≠ [] ∧ ms[ms.length - 1]? = some m ∧ m.length ≤ 54 ∧ x.p = ((ms.length : Int) - 1) ∧ x.q = ⟨(quote m).toArray⟩ := by
  have hll := I.inv.len
  match bl, I, h1, hll with
  | [], I, _, _ => have := I.last; simp at this
  | [b], I, _, hll =>
    have l := I.last
    simp only [List.map_cons, List.map_nil, List.mem_singleton] at l
    match hl, I, hll with
    | [x], I, _ =>
      have pp := I.inv.perm
      simp only [List.map_cons, List.map_nil, List.perm_singleton] at pp
      have xp : x.p = b.p := by simpa using pp
      obtain ⟨k, m, a, b', c⟩ := I.inv.hq x (.head _)
      have hk := (List.getElem?_eq_some_iff.1 b').1
      obtain ⟨k2, m2, a2, b2, c2⟩ := I.inv.bq b (.head _)
      have ek : k = ms.length - 1 := by omega
      have w := wt_le (.head _) (by rw [← xp]; exact a) b' (bl := [b])
      refine ⟨x, m, rfl, fun q => by rw [q] at hk; simp at hk, ek ▸ b', Nat.le_trans w I.wt, by omega, c⟩
end Mine
end

/- part SiftD -/
section
open PySem PySem.W PyProof.Rows
set_option Elab.async false
set_option maxRecDepth 100000
namespace Mine
local macro_rules | `(tactic| walk_at "goSiftD") => `(tactic| repeat ((fail_if_success (with_reducible show wpAny _ _ (exec (Stmt.While _ _ _ _) _) _ _ _)); (fail_if_success (with_reducible show wpAny _ _ (exec (Stmt.For _ _ _ _ _) _) _ _ _)); (fail_if_success (with_reducible show wpAny _ _ (call (Value.ref _) _ _) _ _ _)); (fail_if_success (with_reducible show ite _ _ _)); (first | walk1 | (dsimp only; walk1)); (try dsimp only)))
section
variable {w : World} {A A₀ : Around} {base h₀ : Heap} {outer : List Env} {env : Env} {L : Addr} {m mg mb : Str → Option Value} {mean : ExcName → Option Value} {s : Shared} {news : List (Addr × Obj)} {Q : Value → Shared → Prop} {E : Value → Shared → Prop}
set_option maxHeartbeats 8000000 in
theorem sd_call {kk : Nat} (C : Cx kk w A A₀ base h₀ outer env L mean mg mb) (F : Fr h₀ L s.heap m) (N : News h₀ L s.heap news) {hp : Addr} {l : List It} {n start pos : Nat} {t1 t2 : Tok}
    (hm : (hp, W.listOf (l.map It.v).toArray n) ∈ news) (hin : InN news l) (hpos : pos < l.length) (hlen : l.length ≤ 100)
    (h : ∀ h' tk, Fr h₀ L h' m → News h₀ L h' (setN hp (W.listOf ((siftdown It.lt l start pos).map It.v).toArray n) news) → Q .none { s with heap := h', toks := tk }) :
    wpAny (model PG w) A (call (.ref 76) [.ref hp, .int start t1, .int pos t2]) Q E s := by
  obtain ⟨B, X, T, hA, hf, hke, hd, hu, hh⟩ := C
  refine wpAny_call ?_
  refine' code_def (binds := [(Str.ofString "heap", .ref hp), (Str.ofString "startpos", .int start t1), (Str.ofString "pos", .int pos t2)]) B F X N T hA hf hke ?k6 ?k7 ?k8 ?k9 ?kB ?_ ?c2 ?c3 ?c4 ?c5
  case k6 => k_is
  case k7 => k_is
  case k8 => simp only [recursionLimit]; omega
  case k9 => exact BindsTo.of_eq rfl
  case c5 => decide
  case kB => exact locs rfl
  case c2 => exact rfl
  case c3 => exact rfl
  case c4 => exact rfl
  intro g' L' h' FG' F' N' B' X' T'
  dsimp only
  have hin' : ∀ o, InN (setN hp o news) l := fun o => InN.setN N' hm hin
  clear X T B F N
  refine wpAny_mono (E := fun _ _ => False) ?_ (fun _ _ x => x) (fun _ _ x => False.elim x)
  · k_fold
    w_on
    walk_at "goSiftD"
    refine sub_N N' hm (by omega) (by omega) (map_get hpos) ?_
    walk_at "goSiftD"
    rename_i F₀ N₀
    refine While_inv2 (J := fun k m₁ news₁ => ∃ (l' : List It) (p' : Nat) (tp : Tok), k = p' ∧ l'.length = l.length ∧ p' < l.length ∧ AllSay m₁ [(Str.ofString "heap", .ref hp), (Str.ofString "startpos", .int start t1), (Str.ofString "pos", .int p' tp), (Str.ofString "newitem", l[pos].v)] ∧ news₁ = setN hp (W.listOf (l'.map It.v).toArray n) news ∧ (∀ x ∈ l', x ∈ l) ∧ sdLoop It.lt l[pos] start l' p' = sdLoop It.lt l[pos] start l pos)
      (n₀ := pos) F₀ N₀ ⟨l, pos, t2, rfl, rfl, hpos, ⟨rfl, rfl, rfl, rfl, trivial⟩, (setN_id N₀ hm).symm, fun _ x => x, rfl⟩ ?_ (fun _ _ x => False.elim x)
    rintro k m₁ news₁ h₁ tk₁ F₁ N₁ ⟨l', p', tp, rfl, hl', hp', e1, rfl, hsub, hloop⟩
    have F₂ := fr_says F₁ e1
    clear F₁ F₀ N₀
    walk_at "goSiftD"
    refine iteB (fun hc => ?_) (fun hc => ?_)
    · have hc' : start < k := by have := of_decide_eq_true hc; omega
      have hfd : ((k : Int) - 1).fdiv (2 ^ Int.toNat 1) = (((k - 1) / 2 : Nat) : Int) := by
        rw [Int.fdiv_eq_ediv_of_nonneg _ (by decide)]
        show ((k : Int) - 1) / 2 = _
        omega
      walk_at "goSiftD"
      rw [hfd]
      rename News _ _ _ _ => N₃
      have hpp : (k - 1) / 2 < l'.length := by omega
      refine sub_N N₃ (mem_setN_self hm) (by omega) (by omega) (map_get hpp) ?_
      walk_at "goSiftD"
      rename News _ _ _ _ => N₄
      refine lt_its (by rw [Around.deeper_units, cLine_is]; omega) N₄ (hin' _ _ (List.getElem_mem hpos)) (hin' _ _ (hsub _ (List.getElem_mem hpp))) ?_
      walk_at "goSiftD"
      refine iteB (fun hc2 => ?_) (fun hc2 => ?_)
      · walk_at "goSiftD"
        refine set_N (by assumption) N₄ (mem_setN_self hm) (by omega) (by simp; omega) (by omega) ?_
        intro h₅ F₅ N₅
        rw [setN_setN, ← List.map_set] at N₅
        walk_at "goSiftD"
        rename Fr _ _ _ _ => F₇
        rename News _ _ _ _ => N₇
        refine ⟨_, _, _, _, (k - 1) / 2, rfl, F₇, N₇, by omega, l'.set k l'[(k - 1) / 2], (k - 1) / 2, _, rfl, by rw [List.length_set, hl'], by omega, ⟨rfl, rfl, congrArg (fun z => some (Value.int z _)) hfd, rfl, trivial⟩, by simp, ?_, ?_⟩
        · intro x hx
          rcases List.mem_or_eq_of_mem_set hx with hx | hx
          · exact hsub x hx
          · rw [hx]; exact hsub _ (List.getElem_mem hpp)
        · rw [← hloop]
          conv => rhs; rw [sdLoop]
          rw [dif_pos hc', List.getElem?_eq_getElem hpp]
          dsimp only
          rw [if_pos hc2]
      · walk_at "goSiftD"
        rename Fr _ _ _ _ => F₇
        show wpAny _ _ _ _ _ _
        walk_at "goSiftD"
        refine set_N (by assumption) N₄ (mem_setN_self hm) (by omega) (by simp; omega) (by omega) ?_
        intro h₅ F₅ N₅
        rw [setN_setN, ← List.map_set] at N₅
        walk_at "goSiftD"
        k_unfold
        dsimp only
        have e9 : sdLoop It.lt l[pos] start l' k = (l', k) := by
          rw [sdLoop, dif_pos hc', List.getElem?_eq_getElem hpp]
          dsimp only
          rw [if_neg (by rw [hc2]; simp)]
        have e8 : siftdown It.lt l start pos = l'.set k l[pos] := by
          unfold siftdown
          rw [List.getElem?_eq_getElem hpos]
          dsimp only
          rw [← hloop, e9]
        refine leaveK_ F₅ N₅ (fun F₆ N₆ => h _ _ F₆ ?_)
        rw [e8]
        exact N₆
    · walk_at "goSiftD"
      refine set_N F₂ N₁ (mem_setN_self hm) (by omega) (by simp; omega) (by omega) ?_
      intro h₅ F₅ N₅
      rw [setN_setN, ← List.map_set] at N₅
      walk_at "goSiftD"
      k_unfold
      dsimp only
      have e9 : sdLoop It.lt l[pos] start l' k = (l', k) := by
        rw [sdLoop, dif_neg (by have := of_decide_eq_false hc; omega)]
      have e8 : siftdown It.lt l start pos = l'.set k l[pos] := by
        unfold siftdown
        rw [List.getElem?_eq_getElem hpos]
        dsimp only
        rw [← hloop, e9]
      refine leaveK_ F₅ N₅ (fun F₆ N₆ => h _ _ F₆ ?_)
      rw [e8]
      exact N₆
end
end Mine
end

/- part SiftU -/
section
open PySem PySem.W PyProof.Rows
set_option Elab.async false
set_option maxRecDepth 100000
namespace Mine
local macro_rules | `(tactic| walk_at "goSiftU") => `(tactic| repeat ((fail_if_success (with_reducible show wpAny _ _ (exec (Stmt.While _ _ _ _) _) _ _ _)); (fail_if_success (with_reducible show wpAny _ _ (exec (Stmt.For _ _ _ _ _) _) _ _ _)); (fail_if_success (with_reducible show wpAny _ _ (call (Value.ref _) _ _) _ _ _)); (fail_if_success (with_reducible show ite _ _ _)); (first | walk1 | (dsimp only; walk1)); (try dsimp only)))
section
variable {w : World} {A A₀ : Around} {base h₀ : Heap} {outer : List Env} {env : Env} {L : Addr} {m mg mb : Str → Option Value} {mean : ExcName → Option Value} {s : Shared} {news : List (Addr × Obj)} {Q : Value → Shared → Prop} {E : Value → Shared → Prop}
set_option maxHeartbeats 8000000 in
theorem su_call {kk : Nat} (C : Cx (kk + 1) w A A₀ base h₀ outer env L mean mg mb) (F : Fr h₀ L s.heap m) (N : News h₀ L s.heap news) {hp : Addr} {l : List It} {n pos : Nat} {t2 : Tok}
    (hm : (hp, W.listOf (l.map It.v).toArray n) ∈ news) (hin : InN news l) (hpos : pos < l.length) (hlen : l.length ≤ 100)
    (h : ∀ h' tk, Fr h₀ L h' m → News h₀ L h' (setN hp (W.listOf ((siftup It.lt l pos).map It.v).toArray n) news) → Q .none { s with heap := h', toks := tk }) :
    wpAny (model PG w) A (call (.ref 83) [.ref hp, .int pos t2]) Q E s := by
  have C₀ := C
  obtain ⟨B, X, T, hA, hf, hke, hd, hu, hh⟩ := C
  refine wpAny_call ?_
  refine' code_def (binds := [(Str.ofString "heap", .ref hp), (Str.ofString "pos", .int pos t2)]) B F X N T hA hf hke ?k6 ?k7 ?k8 ?k9 ?kB ?_ ?c2 ?c3 ?c4 ?c5
  case k6 => k_is
  case k7 => k_is
  case k8 => simp only [recursionLimit]; omega
  case k9 => exact BindsTo.of_eq rfl
  case c5 => decide
  case kB => exact locs rfl
  case c2 => exact rfl
  case c3 => exact rfl
  case c4 => exact rfl
  intro g' L' h' FG' F' N' B' X' T'
  dsimp only
  have hin' : ∀ o, InN (setN hp o news) l := fun o => InN.setN N' hm hin
  clear X T B F N
  refine wpAny_mono (E := fun _ _ => False) ?_ (fun _ _ x => x) (fun _ _ x => False.elim x)
  k_fold
  w_on
  walk_at "goSiftU"
  refine len_N N' hm (by simp; omega) ?_
  rw [List.length_map]
  walk_at "goSiftU"
  rename News _ _ _ _ => N₁
  refine sub_N N₁ hm (by omega) (by omega) (map_get hpos) ?_
  walk_at "goSiftU"
  rename Fr _ _ _ _ => F₀
  rename News _ _ _ _ => N₀
  refine While_inv2 (J := fun k m₁ news₁ => ∃ (l' : List It) (p' : Nat) (te tp tc : Tok), k = l.length - p' ∧ l'.length = l.length ∧ p' < l.length ∧
      AllSay m₁ [(Str.ofString "heap", .ref hp), (Str.ofString "startpos", .int pos t2), (Str.ofString "endpos", .int l.length te), (Str.ofString "pos", .int p' tp), (Str.ofString "childpos", .int (2 * (p' : Int) + 1) tc), (Str.ofString "newitem", l[pos].v)] ∧
      news₁ = setN hp (W.listOf (l'.map It.v).toArray n) news ∧ (∀ x ∈ l', x ∈ l) ∧ suLoop It.lt l' p' = suLoop It.lt l pos)
      (n₀ := l.length - pos) F₀ N₀ ⟨l, pos, _, _, _, rfl, rfl, hpos, ⟨rfl, rfl, rfl, rfl, rfl, rfl, trivial⟩, (setN_id N₀ hm).symm, fun _ x => x, rfl⟩ ?_ (fun _ _ x => False.elim x)
  rintro k m₁ news₁ h₁ tk₁ F₁ N₁ ⟨l', p', te, tp, tc, rfl, hl', hp', e1, rfl, hsub, hloop⟩
  have F₂ := fr_says F₁ e1
  clear F₁ F₀ N₀
  walk_at "goSiftU"
  refine iteB (fun hc => ?_) (fun hc => ?_)
  · have hc' : 2 * p' + 1 < l.length := by have := of_decide_eq_true hc; omega
    walk_at "goSiftU"
    rename News _ _ _ _ => N₃
    refine iteB (fun hr => ?_) (fun hr => ?_)
    · have hr' : 2 * p' + 2 < l.length := by have := of_decide_eq_true hr; omega
      walk_at "goSiftU"
      refine sub_N N₃ (mem_setN_self hm) (by omega) (by omega) (map_getI (j := 2 * p' + 1) (by omega) (by omega)) ?_
      walk_at "goSiftU"
      refine sub_N N₃ (mem_setN_self hm) (by omega) (by omega) (map_getI (j := 2 * p' + 2) (by omega) (by omega)) ?_
      walk_at "goSiftU"
      refine lt_its (by rw [Around.deeper_units, cLine_is]; omega) N₃ (hin' _ _ (hsub _ (List.getElem_mem _))) (hin' _ _ (hsub _ (List.getElem_mem _))) ?_
      walk_at "goSiftU"
      refine iteB (fun hq => ?_) (fun hq => ?_)
      · walk_at "goSiftU"
        rw [if_pos rfl]
        walk_at "goSiftU"
        obtain ⟨c, hc0⟩ : ∃ c, c = 2 * p' + 2 := ⟨_, rfl⟩
        have hcI : 2 * (p' : Int) + 1 + 1 = (c : Int) := by omega
        have hcc : suChild It.lt l' p' = c := by
          unfold suChild
          rw [dif_pos (by omega), if_neg (by simpa using hq), hc0]
        refine sub_N (by assumption) (mem_setN_self hm) (by omega) (by omega) (map_getI (j := c) (by omega) (by omega)) ?_
        walk_at "goSiftU"
        refine set_N (by assumption) (by assumption) (mem_setN_self hm) (by omega) (by simp; omega) (by omega) ?_
        intro h₅ F₅ N₅
        rw [setN_setN, ← List.map_set] at N₅
        walk_at "goSiftU"
        rename Fr _ _ _ _ => F₇
        rename News _ _ _ _ => N₇
        refine ⟨_, _, _, _, l.length - c, rfl, F₇, N₇, by omega, l'.set p' l'[c], c, _, _, _, rfl, by rw [List.length_set, hl'], by omega, ⟨rfl, rfl, rfl, congrArg (fun z => some (Value.int z _)) hcI, congrArg (fun z => some (Value.int (2 * z + 1) _)) hcI, rfl, trivial⟩, by simp, ?_, ?_⟩
        · intro x hx
          rcases List.mem_or_eq_of_mem_set hx with hx | hx
          · exact hsub x hx
          · rw [hx]; exact hsub _ (List.getElem_mem _)
        · rw [← hloop]
          exact (suLoop_step (by omega) hcc (by omega)).symm
      · rw [if_neg (by simp)]
        walk_at "goSiftU"
        obtain ⟨c, hc0⟩ : ∃ c, c = 2 * p' + 1 := ⟨_, rfl⟩
        have hcI : 2 * (p' : Int) + 1 = (c : Int) := by omega
        have hcc : suChild It.lt l' p' = c := by
          unfold suChild
          rw [dif_pos (by omega), if_pos (by simpa using hq), hc0]
        refine sub_N (by assumption) (mem_setN_self hm) (by omega) (by omega) (map_getI (j := c) (by omega) (by omega)) ?_
        walk_at "goSiftU"
        refine set_N (by assumption) (by assumption) (mem_setN_self hm) (by omega) (by simp; omega) (by omega) ?_
        intro h₅ F₅ N₅
        rw [setN_setN, ← List.map_set] at N₅
        walk_at "goSiftU"
        rename Fr _ _ _ _ => F₇
        rename News _ _ _ _ => N₇
        refine ⟨_, _, _, _, l.length - c, rfl, F₇, N₇, by omega, l'.set p' l'[c], c, _, _, _, rfl, by rw [List.length_set, hl'], by omega, ⟨rfl, rfl, rfl, congrArg (fun z => some (Value.int z _)) hcI, congrArg (fun z => some (Value.int (2 * z + 1) _)) hcI, rfl, trivial⟩, by simp, ?_, ?_⟩
        · intro x hx
          rcases List.mem_or_eq_of_mem_set hx with hx | hx
          · exact hsub x hx
          · rw [hx]; exact hsub _ (List.getElem_mem _)
        · rw [← hloop]
          exact (suLoop_step (by omega) hcc (by omega)).symm
    · rw [if_neg (by simp)]
      · walk_at "goSiftU"
        obtain ⟨c, hc0⟩ : ∃ c, c = 2 * p' + 1 := ⟨_, rfl⟩
        have hcI : 2 * (p' : Int) + 1 = (c : Int) := by omega
        have hcc : suChild It.lt l' p' = c := by
          unfold suChild
          rw [dif_neg (by have := of_decide_eq_false hr; omega), hc0]
        refine sub_N (by assumption) (mem_setN_self hm) (by omega) (by omega) (map_getI (j := c) (by omega) (by omega)) ?_
        walk_at "goSiftU"
        refine set_N (by assumption) (by assumption) (mem_setN_self hm) (by omega) (by simp; omega) (by omega) ?_
        intro h₅ F₅ N₅
        rw [setN_setN, ← List.map_set] at N₅
        walk_at "goSiftU"
        rename Fr _ _ _ _ => F₇
        rename News _ _ _ _ => N₇
        refine ⟨_, _, _, _, l.length - c, rfl, F₇, N₇, by omega, l'.set p' l'[c], c, _, _, _, rfl, by rw [List.length_set, hl'], by omega, ⟨rfl, rfl, rfl, congrArg (fun z => some (Value.int z _)) hcI, congrArg (fun z => some (Value.int (2 * z + 1) _)) hcI, rfl, trivial⟩, by simp, ?_, ?_⟩
        · intro x hx
          rcases List.mem_or_eq_of_mem_set hx with hx | hx
          · exact hsub x hx
          · rw [hx]; exact hsub _ (List.getElem_mem _)
        · rw [← hloop]
          exact (suLoop_step (by omega) hcc (by omega)).symm
  · walk_at "goSiftU"
    refine set_N F₂ N₁ (mem_setN_self hm) (by omega) (by simp; omega) (by omega) ?_
    intro h₅ F₅ N₅
    rw [setN_setN, ← List.map_set] at N₅
    walk_at "goSiftU"
    refine sd_call (C₀.inner B' X' T') F₅ N₅ (mem_setN_self hm) (l := l'.set p' l[pos]) (fun x hx => hin' _ x ?_) (by rw [List.length_set]; omega) (by rw [List.length_set]; omega) ?_
    · rcases List.mem_or_eq_of_mem_set hx with hx | hx
      · exact hsub x hx
      · rw [hx]; exact List.getElem_mem _
    · intro h₆ tk₆ F₆ N₆
      rw [setN_setN] at N₆
      walk_at "goSiftU"
      k_unfold
      dsimp only
      have e9 : suLoop It.lt l pos = (l', p') := by
        rw [← hloop, suLoop_end (by have := of_decide_eq_false hc; omega)]
      have e8 : siftup It.lt l pos = siftdown It.lt (l'.set p' l[pos]) pos p' := by
        unfold siftup
        rw [List.getElem?_eq_getElem hpos]
        dsimp only
        rw [e9]
      refine leaveK_ F₆ N₆ (fun F₆ N₆ => h _ _ F₆ ?_)
      rw [e8]
      exact N₆
end
end Mine
end

/- part HeapF -/
section
open PySem PySem.W PyProof.Rows
set_option Elab.async false
set_option maxRecDepth 100000
namespace Mine
local macro_rules | `(tactic| walk_at "goHeapF") => `(tactic| repeat ((fail_if_success (with_reducible show wpAny _ _ (exec (Stmt.While _ _ _ _) _) _ _ _)); (fail_if_success (with_reducible show wpAny _ _ (exec (Stmt.For _ _ _ _ _) _) _ _ _)); (fail_if_success (with_reducible show wpAny _ _ (call (Value.ref _) _ _) _ _ _)); (fail_if_success (with_reducible show ite _ _ _)); (first | walk1 | (dsimp only; walk1)); (try dsimp only)))
section
variable {w : World} {A A₀ : Around} {base h₀ : Heap} {outer : List Env} {env : Env} {L : Addr} {m mg mb : Str → Option Value} {mean : ExcName → Option Value} {s : Shared} {news : List (Addr × Obj)} {Q : Value → Shared → Prop} {E : Value → Shared → Prop}
set_option maxHeartbeats 8000000 in
theorem hp_call {kk : Nat} (C : Cx (kk + 2) w A A₀ base h₀ outer env L mean mg mb) (F : Fr h₀ L s.heap m) (N : News h₀ L s.heap news) {hp : Addr} {l l0 : List It} {y : It} {n : Nat}
    (hm : (hp, W.listOf (l.map It.v).toArray n) ∈ news) (hin : InN news l) (hl : l = l0 ++ [y]) (h0 : 0 < l0.length) (hlen : l.length ≤ 100)
    (h : ∀ h' tk n', Fr h₀ L h' m → News h₀ L h' (setN hp (W.listOf ((siftup It.lt (l0.set 0 y) 0).map It.v).toArray n') news) → Q l0[0].v { s with heap := h', toks := tk }) :
    wpAny (model PG w) A (call (.ref 55) [.ref hp]) Q E s := by
  have C₀ := C
  obtain ⟨B, X, T, hA, hf, hke, hd, hu, hh⟩ := C
  refine wpAny_call ?_
  refine' code_def (binds := [(Str.ofString "heap", .ref hp)]) B F X N T hA hf hke ?k6 ?k7 ?k8 ?k9 ?kB ?_ ?c2 ?c3 ?c4 ?c5
  case k6 => k_is
  case k7 => k_is
  case k8 => simp only [recursionLimit]; omega
  case k9 => exact BindsTo.of_eq rfl
  case c5 => decide
  case kB => exact locs rfl
  case c2 => exact rfl
  case c3 => exact rfl
  case c4 => exact rfl
  intro g' L' h' FG' F' N' B' X' T'
  dsimp only
  have hin' : ∀ o, InN (setN hp o news) l := fun o => InN.setN N' hm hin
  clear X T B F N
  refine wpAny_mono (E := fun _ _ => False) ?_ (fun _ _ x => x) (fun _ _ x => False.elim x)
  k_fold
  w_on
  walk_at "goHeapF"
  have e0 : l.map It.v = l0.map It.v ++ [y.v] := by rw [hl]; simp
  have hll : l.length = l0.length + 1 := by rw [hl]; simp
  refine pop_N F' N' hm e0 (by simp; omega) ?_
  intro h₁ F₁ N₁
  walk_at "goHeapF"
  rename News _ _ _ _ => N₂
  refine truthy_N N₂ (mem_setN_self hm) (by simp; omega) ?_
  walk_at "goHeapF"
  rw [if_pos (by cases l0 with | nil => simp at h0 | cons a r => simp)]
  walk_at "goHeapF"
  refine sub_N N₂ (mem_setN_self hm) (by omega) (by omega) (map_get (k := 0) h0) ?_
  walk_at "goHeapF"
  refine set_N (by assumption) (by assumption) (mem_setN_self hm) (by omega) (by simp; omega) (by omega) ?_
  intro h₅ F₅ N₅
  rw [setN_setN, ← List.map_set] at N₅
  walk_at "goHeapF"
  refine su_call (pos := 0) (C₀.inner B' X' T') F₅ N₅ (mem_setN_self hm) (l := l0.set 0 y) (fun x hx => hin' _ x ?_) (by rw [List.length_set]; omega) (by rw [List.length_set]; omega) ?_
  · rcases List.mem_or_eq_of_mem_set hx with hx | hx
    · rw [hl]; exact List.mem_append_left _ hx
    · rw [hx, hl]; simp
  · intro h₆ tk₆ F₆ N₆
    rw [setN_setN] at N₆
    walk_at "goHeapF"
    k_unfold
    dsimp only
    exact leaveK_ F₆ N₆ (fun F₆ N₆ => h _ _ _ F₆ N₆)
set_option maxHeartbeats 8000000 in
theorem hr_call {kk : Nat} (C : Cx (kk + 2) w A A₀ base h₀ outer env L mean mg mb) (F : Fr h₀ L s.heap m) (N : News h₀ L s.heap news) {hp : Addr} {l : List It} {y : It} {n : Nat}
    (hm : (hp, W.listOf (l.map It.v).toArray n) ∈ news) (hin : InN news l) (hy : (y.a, y.o) ∈ news) (h0 : 0 < l.length) (hlen : l.length ≤ 100)
    (h : ∀ h' tk, Fr h₀ L h' m → News h₀ L h' (setN hp (W.listOf ((siftup It.lt (l.set 0 y) 0).map It.v).toArray n) news) → Q l[0].v { s with heap := h', toks := tk }) :
    wpAny (model PG w) A (call (.ref 62) [.ref hp, y.v]) Q E s := by
  have C₀ := C
  obtain ⟨B, X, T, hA, hf, hke, hd, hu, hh⟩ := C
  refine wpAny_call ?_
  refine' code_def (binds := [(Str.ofString "heap", .ref hp), (Str.ofString "item", y.v)]) B F X N T hA hf hke ?k6 ?k7 ?k8 ?k9 ?kB ?_ ?c2 ?c3 ?c4 ?c5
  case k6 => k_is
  case k7 => k_is
  case k8 => simp only [recursionLimit]; omega
  case k9 => exact BindsTo.of_eq rfl
  case c5 => decide
  case kB => exact locs rfl
  case c2 => exact rfl
  case c3 => exact rfl
  case c4 => exact rfl
  intro g' L' h' FG' F' N' B' X' T'
  dsimp only
  have hin' : ∀ o, InN (setN hp o news) (y :: l) := fun o => InN.setN N' hm (fun x hx => by rcases List.mem_cons.mp hx with rfl | hx; exact hy; exact hin x hx)
  clear X T B F N
  refine wpAny_mono (E := fun _ _ => False) ?_ (fun _ _ x => x) (fun _ _ x => False.elim x)
  k_fold
  w_on
  walk_at "goHeapF"
  refine sub_N N' hm (by omega) (by omega) (map_get (k := 0) h0) ?_
  walk_at "goHeapF"
  refine set_N (by assumption) (by assumption) hm (by omega) (by simp; omega) (by omega) ?_
  intro h₅ F₅ N₅
  rw [← List.map_set] at N₅
  walk_at "goHeapF"
  refine su_call (pos := 0) (C₀.inner B' X' T') F₅ N₅ (mem_setN_self hm) (l := l.set 0 y) (fun x hx => hin' _ x ?_) (by rw [List.length_set]; omega) (by rw [List.length_set]; omega) ?_
  · rcases List.mem_or_eq_of_mem_set hx with hx | hx
    · exact List.mem_cons_of_mem _ hx
    · rw [hx]; simp
  · intro h₆ tk₆ F₆ N₆
    rw [setN_setN] at N₆
    walk_at "goHeapF"
    k_unfold
    dsimp only
    exact leaveK_ F₆ N₆ (fun F₆ N₆ => h _ _ F₆ N₆)
set_option maxHeartbeats 8000000 in
theorem hf_call {kk : Nat} (C : Cx (kk + 2) w A A₀ base h₀ outer env L mean mg mb) (F : Fr h₀ L s.heap m) (N : News h₀ L s.heap news) {hp : Addr} {l : List It} {n : Nat}
    (hm : (hp, W.listOf (l.map It.v).toArray n) ∈ news) (hin : InN news l) (hlen : l.length ≤ 100)
    (h : ∀ h' tk, Fr h₀ L h' m → News h₀ L h' (setN hp (W.listOf ((heapify It.lt l).map It.v).toArray n) news) → Q .none { s with heap := h', toks := tk }) :
    wpAny (model PG w) A (call (.ref 69) [.ref hp]) Q E s := by
  have C₀ := C
  obtain ⟨B, X, T, hA, hf, hke, hd, hu, hh⟩ := C
  refine wpAny_call ?_
  refine' code_def (binds := [(Str.ofString "x", .ref hp)]) B F X N T hA hf hke ?k6 ?k7 ?k8 ?k9 ?kB ?_ ?c2 ?c3 ?c4 ?c5
  case k6 => k_is
  case k7 => k_is
  case k8 => simp only [recursionLimit]; omega
  case k9 => exact BindsTo.of_eq rfl
  case c5 => decide
  case kB => exact locs rfl
  case c2 => exact rfl
  case c3 => exact rfl
  case c4 => exact rfl
  intro g' L' h' FG' F' N' B' X' T'
  dsimp only
  have hin' : ∀ o, InN (setN hp o news) l := fun o => InN.setN N' hm hin
  clear X T B F N
  refine wpAny_mono (E := fun _ _ => False) ?_ (fun _ _ x => x) (fun _ _ x => False.elim x)
  k_fold
  w_on
  walk_at "goHeapF"
  refine len_N N' hm (by simp; omega) ?_
  rw [List.length_map]
  walk_at "goHeapF"
  refine For_invV g' rfl rfl ?_ (fun _ => rfl) (fun _ _ x => False.elim x)
  walk_at "goHeapF"
  rename IsRange _ _ _ _ _ _ _ _ => hR
  rename Fr _ _ _ _ => F₁
  rename News _ _ _ _ => N₁
  have hk : ((l.length : Int)).fdiv 2 = ((l.length / 2 : Nat) : Int) := by
    rw [Int.fdiv_eq_ediv_of_nonneg _ (by decide)]; omega
  rw [hk] at hR
  refine call_reversed_range hR (by omega) (by omega) ?_
  refine wpAny_pyIter_rangeiter (Heap.get?_push_size _ rfl) ?_
  refine loopR (A := A.deeper _) hh F₁ N₁ (fun i m₁ news₁ => ∃ l' : List It, l'.length = l.length ∧ AllSay m₁ [(Str.ofString "x", .ref hp)] ∧ news₁ = setN hp (W.listOf (l'.map It.v).toArray n) news ∧ (∀ x ∈ l', x ∈ l) ∧
      ((List.range (l.length / 2)).reverse.drop i).foldl (fun l i => siftup It.lt l i) l' = heapify It.lt l) ⟨l, rfl, ⟨rfl, trivial⟩, (setN_id N₁ hm).symm, fun _ x => x, rfl⟩ ?_ ?_
  · rintro i t m₁ news₁ h₁ tk own hi ⟨l', hl', e1, rfl, hsub, hfold⟩ hnI hown F₁ N₁
    have F₂ := fr_says (l := [(Str.ofString "i", .int ((((l.length / 2 : Nat) : Int) - 1) + i * (-1)) t), (Str.ofString "x", .ref hp)]) F₁ ⟨rfl, e1.1, trivial⟩
    have hi' : (((l.length / 2 : Nat) : Int) - 1) + i * (-1) = ((l.length / 2 - 1 - i : Nat) : Int) := by omega
    clear F₁
    walk_at "goHeapF"
    rw [hi']
    refine su_call (C₀.inner B' X' T') F₂ N₁ (List.mem_append_right _ (mem_setN_self hm)) (fun x hx => List.mem_append_right _ (hin' _ x (hsub x hx))) (by omega) (by omega) ?_
    intro h₆ tk₆ F₆ N₆
    have hown' : ∀ p ∈ own, p.1 ≠ hp := fun p hp' e => hnI _ (mem_setN_self hm) (by rw [← e]; exact hown p hp')
    rw [setN_append, setN_off hown', setN_setN] at N₆
    walk_at "goHeapF"
    refine ⟨rfl, _, _, _, _, rfl, F₆, N₆, ?_, siftup It.lt l' (l.length / 2 - 1 - i), ?_, ⟨rfl, trivial⟩, rfl, ?_, ?_⟩
    · intro p hp'
      obtain ⟨q, hq, e⟩ := setN_adr hp'
      obtain ⟨r, hr, e'⟩ := adr_setN (d := hp) (o := W.listOf (l'.map It.v).toArray n) hq
      rw [List.mem_singleton, ← e, ← e']
      exact hnI r hr
    · rw [siftup_length, hl']
    · exact fun x hx => hsub x (siftup_mem hx)
    · rw [← hfold]
      have hlt : i < (List.range (l.length / 2)).reverse.length := by simpa using hi
      rw [List.drop_eq_getElem_cons hlt, List.foldl_cons]
      have e2 : (List.range (l.length / 2)).reverse[i] = l.length / 2 - 1 - i := by simp
      rw [e2]
  · rintro h₁ tk m₁ news₁ F₁ N₁ ⟨l', hl', e1, rfl, hsub, hfold⟩
    walk_at "goHeapF"
    k_unfold
    dsimp only
    have e8 : heapify It.lt l = l' := by
      rw [← hfold, List.drop_of_length_le (by simp)]; rfl
    refine leaveK_ F₁ N₁ (fun F₆ N₆ => h _ _ F₆ ?_)
    rw [e8]
    exact N₆
end
end Mine
end

/- part ReF -/
section
open PySem PySem.W PyProof.Rows
set_option Elab.async false
set_option maxRecDepth 100000
namespace Mine
theorem plainAttrs_rp : PlainAttrs "re.Pattern" :=
  ⟨⟨"object.__getattribute__", by rw [typeLookup_type, builtinLookup_eq_fast]; kernel_rfl, by decide +kernel⟩, by rw [typeLookup_type, builtinLookup_eq_fast]; kernel_rfl⟩
theorem slot_rp_sub : Slot "re.Pattern" "sub" "re.Pattern.sub" :=
  .of (owner := "re.Pattern") (n := "sub") (by rw [typeLookup_type, builtinLookup_eq_fast]; kernel_rfl) (by decide +kernel) (by decide +kernel) (by decide +kernel)
    (by first | exact .inl (by decide +kernel) | exact .inr (by decide +kernel)) (by rw [isSubtype_type]; kernel_rfl)
theorem type_rp_sub : typeOf (.builtin "re.Pattern.sub") = pure (.type "method_descriptor") := by show builtinType _ = _; rw [builtinType_eq_fast]; kernel_rfl
theorem entry_rp_sub : entryFor table "re.Pattern.sub" = some Builtin.«re.Pattern.sub» := entryFor_of_tree (by kernel_rfl)
theorem entry_rp_loop : entryFor table "re.Pattern.sub.loop" = some Builtin.«re.Pattern.sub.loop» := entryFor_of_tree (by kernel_rfl)
theorem plain_rp_loop : plainId "re.Pattern.sub.loop" = true := by decide +kernel
theorem owner_rp : Manifest.owners.lookup (String.ofList ['n', 'r', 'e', 't', 't', 'a', 'P', '.', 'e', 'r'].reverse) = some Manifest.sig_re_Pattern := by kernel_rfl
theorem args_rp_sub_3 (a b c : Value) : argsOk "re.Pattern.sub" ⟨[a, b, c], []⟩ := by
  unfold argsOk; rw [signature?_of (id := "re.Pattern.sub") (n := ['b', 'u', 's']) (o := ['n', 'r', 'e', 't', 't', 'a', 'P', '.', 'e', 'r']) (by kernel_rfl) owner_rp]; kernel_rfl
end Mine
end

/- part Sre1 -/
section
open PySem PySem.Sre
set_option maxRecDepth 100000
namespace Mine
abbrev code1 : Array Nat := #[14, 4, 0, 1, 1, 6, 1, 16, 46, 1]
abbrev code2 : Array Nat := #[14, 9, 4, 1, 2, 16, 10, 16, 13, 0, 7, 7, 16, 13, 16, 10, 15, 18, 5, 16, 10, 15, 13, 11, 16, 13, 5, 5, 0, 16, 10, 1, 15, 2, 0, 1]

/-- pattern 1, about to be tried at s -/
noncomputable def st1 (text : Array Nat) (lim s : Nat) (first must : Bool) (seen : Seen) : M :=
  { code := code1, text, lim, start := s, lastStart := lim, mustAdvance := must, pc := 5, pos := s, handed := s, outermost := first, marks := #[],
    frames := [{ wait := .nextStart, pc := 5, pos := s, outermost := first }], weight := 1, seen }

theorem runFor_succ (n : Nat) (m : M) (h : m.outcome.isSome = false) : M.runFor (n + 1) m = M.runFor n m.step := by
  rw [M.runFor]; simp [h]
theorem runFor_done (n : Nat) (m : M) (h : m.outcome.isSome = true) : M.runFor n m = m := by
  cases n with
  | zero => rfl
  | succ n => rw [M.runFor]; simp [h]
theorem runFor_add (a b : Nat) (m : M) : M.runFor (a + b) m = M.runFor b (M.runFor a m) := by
  induction a generalizing m with
  | zero => simp [M.runFor]
  | succ a ih =>
    by_cases h : m.outcome.isSome = true
    · rw [runFor_done _ _ h, runFor_done _ _ h, runFor_done _ _ h]
    · have h' : m.outcome.isSome = false := by simpa using h
      rw [show a + 1 + b = (a + b) + 1 by omega, runFor_succ _ _ h', runFor_succ _ _ h', ih]

theorem step_exec {m : M} (ho : m.outcome = none) (ha : m.answer = none) (hpc : m.pc < m.code.size) : m.step = m.exec := by
  unfold M.step
  rw [ho, ha]
  simp [hpc]
theorem step_resume {m : M} {f : Sre.Frame} {rest : List Sre.Frame} {yes : Bool} (ho : m.outcome = none) (ha : m.answer = some yes) (hf : m.frames = f :: rest) :
    m.step = M.resume { m with answer := none, frames := rest, weight := m.weight - (1 + f.kept.marks.size), pc := f.pc, pos := f.pos, outermost := f.outermost } f yes := by
  unfold M.step
  rw [ho, ha, hf]
  simp
theorem step_end {m : M} {yes : Bool} (ho : m.outcome = none) (ha : m.answer = some yes) (hf : m.frames = []) : m.step = { m with outcome := some (if yes then .matched else .failed) } := by
  unfold M.step
  rw [ho, ha, hf]
  simp

theorem exec1_at (text : Array Nat) (lim s : Nat) (first must : Bool) (seen : Seen) : (st1 text lim s first must seen).exec =
    (if (s == 0 || text.getD (s - 1) 0 == 10) = true then { st1 text lim s first must seen with seen := (seen.add 6).add 44, pc := 7 } else { st1 text lim s first must seen with seen := (seen.add 6).add 44, answer := some false }) := rfl
theorem resume1_no (text : Array Nat) (lim s p q : Nat) (first must o : Bool) (seen : Seen) (hs : s < lim) :
    M.resume { st1 text lim s first must seen with frames := [], weight := 0, pc := 5, pos := q, handed := p, outermost := o, answer := none } { wait := .nextStart, pc := 5, pos := s, outermost := first } false = st1 text lim (s + 1) false false seen := by
  show (if s < lim then _ else _) = _
  rw [if_pos hs]
  rfl

noncomputable def c1 (text : Array Nat) (s : Nat) : Bool := (s == 0 || text.getD (s - 1) 0 == 10) && text.getD s 0 == 46

theorem lit1 (text : Array Nat) (lim s : Nat) (first must : Bool) (seen : Seen) :
    ({ st1 text lim s first must seen with pc := 7 } : M).exec =
    (if s ≥ lim then { st1 text lim s first must seen with seen := seen.add 16, pc := 7, answer := some false } else
      match (Except.ok (text.getD s 0 == 46, seen.add 16) : Except String (Bool × Seen)) with
      | .error why => ({ st1 text lim s first must seen with seen := seen.add 16, pc := 7 } : M).stick why
      | .ok (false, seen') => { st1 text lim s first must seen with seen := seen', pc := 7, answer := some false }
      | .ok (true, seen') => { st1 text lim s first must seen with seen := seen', pc := 9, pos := s + 1 }) := rfl

theorem ok1 (text : Array Nat) (lim s : Nat) (first must : Bool) (seen : Seen) :
    ({ st1 text lim s first must seen with pc := 9, pos := s + 1 } : M).exec =
    (if (first && ((false && s + 1 != lim) || (must && s + 1 == s))) = true then { st1 text lim s first must seen with seen := seen.add 1, pc := 9, pos := s + 1, answer := some false }
     else { st1 text lim s first must seen with seen := seen.add 1, pc := 9, pos := s + 1, handed := s + 1, answer := some true }) := rfl

theorem run1_yes {text : Array Nat} {lim s : Nat} {first must : Bool} {seen : Seen} (h : c1 text s = true) (hs : s < lim) :
    (M.runFor 5 (st1 text lim s first must seen)).outcome = some .matched ∧ (M.runFor 5 (st1 text lim s first must seen)).start = s ∧ (M.runFor 5 (st1 text lim s first must seen)).handed = s + 1 := by
  obtain ⟨h1, h2⟩ := Bool.and_eq_true_iff.mp h
  have e1 : (st1 text lim s first must seen).step = { st1 text lim s first must ((seen.add 6).add 44) with pc := 7 } := by
    rw [step_exec rfl rfl (Nat.le_of_ble_eq_true rfl), exec1_at, if_pos h1]; rfl
  have e2 : ({ st1 text lim s first must ((seen.add 6).add 44) with pc := 7 } : M).step = { st1 text lim s first must (((seen.add 6).add 44).add 16) with pc := 9, pos := s + 1 } := by
    rw [step_exec rfl rfl (Nat.le_of_ble_eq_true rfl), lit1, if_neg (by omega), h2]; rfl
  have e3 : ({ st1 text lim s first must (((seen.add 6).add 44).add 16) with pc := 9, pos := s + 1 } : M).step = { st1 text lim s first must ((((seen.add 6).add 44).add 16).add 1) with pc := 9, pos := s + 1, handed := s + 1, answer := some true } := by
    rw [step_exec rfl rfl (Nat.le_of_ble_eq_true rfl), ok1, if_neg (by simp)]; rfl
  have e : M.runFor 5 (st1 text lim s first must seen) = M.runFor 2 ({ st1 text lim s first must ((((seen.add 6).add 44).add 16).add 1) with pc := 9, pos := s + 1, handed := s + 1, answer := some true } : M) := by
    rw [runFor_succ _ _ rfl, e1, runFor_succ _ _ rfl, e2, runFor_succ _ _ rfl, e3]
  rw [e, runFor_succ _ _ rfl, step_resume rfl rfl rfl, runFor_succ _ _ rfl]
  exact ⟨rfl, rfl, rfl⟩

theorem run1_next {text : Array Nat} {lim s : Nat} {first must : Bool} {seen : Seen} (h : c1 text s = false) (hs : s < lim) :
    ∃ k seen', k ≤ 3 ∧ M.runFor k (st1 text lim s first must seen) = st1 text lim (s + 1) false false seen' := by
  by_cases h1 : (s == 0 || text.getD (s - 1) 0 == 10) = true
  · have h2 : (text.getD s 0 == 46) = false := by
      unfold c1 at h; rw [h1, Bool.true_and] at h; exact h
    have e1 : (st1 text lim s first must seen).step = { st1 text lim s first must ((seen.add 6).add 44) with pc := 7 } := by
      rw [step_exec rfl rfl (Nat.le_of_ble_eq_true rfl), exec1_at, if_pos h1]; rfl
    have e2 : ({ st1 text lim s first must ((seen.add 6).add 44) with pc := 7 } : M).step = { st1 text lim s first must (((seen.add 6).add 44).add 16) with pc := 7, answer := some false } := by
      rw [step_exec rfl rfl (Nat.le_of_ble_eq_true rfl), lit1, if_neg (by omega), h2]; rfl
    refine ⟨3, ((seen.add 6).add 44).add 16, Nat.le_refl _, ?_⟩
    rw [runFor_succ _ _ rfl, e1, runFor_succ _ _ rfl, e2, runFor_succ _ _ rfl, step_resume rfl rfl rfl]
    exact resume1_no text lim s s s first must first _ hs
  · have h1' : (s == 0 || text.getD (s - 1) 0 == 10) = false := by simpa using h1
    have e1 : (st1 text lim s first must seen).step = { st1 text lim s first must ((seen.add 6).add 44) with answer := some false } := by
      rw [step_exec rfl rfl (Nat.le_of_ble_eq_true rfl), exec1_at, if_neg h1]; rfl
    refine ⟨2, (seen.add 6).add 44, by omega, ?_⟩
    rw [runFor_succ _ _ rfl, e1, runFor_succ _ _ rfl, step_resume rfl rfl rfl]
    exact resume1_no text lim s s s first must first _ hs

theorem run1_last {text : Array Nat} {lim : Nat} {first must : Bool} {seen : Seen} :
    ∃ k, k ≤ 4 ∧ (M.runFor k (st1 text lim lim first must seen)).outcome = some .failed := by
  by_cases h1 : (lim == 0 || text.getD (lim - 1) 0 == 10) = true
  · have e1 : (st1 text lim lim first must seen).step = { st1 text lim lim first must ((seen.add 6).add 44) with pc := 7 } := by
      rw [step_exec rfl rfl (Nat.le_of_ble_eq_true rfl), exec1_at, if_pos h1]; rfl
    have e2 : ({ st1 text lim lim first must ((seen.add 6).add 44) with pc := 7 } : M).step = { st1 text lim lim first must (((seen.add 6).add 44).add 16) with pc := 7, answer := some false } := by
      rw [step_exec rfl rfl (Nat.le_of_ble_eq_true rfl), lit1, if_pos (Nat.le_refl _)]; rfl
    refine ⟨4, Nat.le_refl _, ?_⟩
    rw [runFor_succ _ _ rfl, e1, runFor_succ _ _ rfl, e2, runFor_succ _ _ rfl, step_resume rfl rfl rfl]
    have e3 : M.resume { st1 text lim lim first must (((seen.add 6).add 44).add 16) with frames := [], weight := 0, pc := 5, pos := lim, handed := lim, outermost := first, answer := none } { wait := .nextStart, pc := 5, pos := lim, outermost := first } false = { st1 text lim lim first must (((seen.add 6).add 44).add 16) with frames := [], weight := 0, answer := some false } := by
      show (if lim < lim then _ else _) = _
      rw [if_neg (Nat.lt_irrefl _)]
      rfl
    exact congrArg M.outcome ((congrArg (M.runFor 1) e3).trans rfl)
  · have e1 : (st1 text lim lim first must seen).step = { st1 text lim lim first must ((seen.add 6).add 44) with answer := some false } := by
      rw [step_exec rfl rfl (Nat.le_of_ble_eq_true rfl), exec1_at, if_neg h1]; rfl
    refine ⟨3, by omega, ?_⟩
    rw [runFor_succ _ _ rfl, e1, runFor_succ _ _ rfl, step_resume rfl rfl rfl]
    have e3 : M.resume { st1 text lim lim first must ((seen.add 6).add 44) with frames := [], weight := 0, pc := 5, pos := lim, handed := lim, outermost := first, answer := none } { wait := .nextStart, pc := 5, pos := lim, outermost := first } false = { st1 text lim lim first must ((seen.add 6).add 44) with frames := [], weight := 0, answer := some false } := by
      show (if lim < lim then _ else _) = _
      rw [if_neg (Nat.lt_irrefl _)]
      rfl
    exact congrArg M.outcome ((congrArg (M.runFor 1) e3).trans rfl)

noncomputable def next1 (text : Array Nat) (s : Nat) : Option Nat :=
  if _h : s < text.size then (if c1 text s = true then some s else next1 text (s + 1)) else none
termination_by text.size - s

/-- what a search hands back: where a match begins and ends -/
noncomputable def Found (m : M) (r : Option (Nat × Nat)) : Prop := match r with
  | some (a, b) => m.outcome = some .matched ∧ m.start = a ∧ m.handed = b
  | none => m.outcome = some .failed

theorem search1 (text : Array Nat) : ∀ (k s : Nat) (first must : Bool) (seen : Seen), text.size - s ≤ k → s ≤ text.size →
    ∃ N, N ≤ 4 * k + 5 ∧ Found (M.runFor N (st1 text text.size s first must seen)) ((next1 text s).map fun a => (a, a + 1)) := by
  intro k
  induction k with
  | zero =>
    intro s first must seen hk hs
    have e : s = text.size := by omega
    subst e
    rw [next1, dif_neg (Nat.lt_irrefl _)]
    obtain ⟨k, h1, h2⟩ := run1_last (text := text) (lim := text.size) (first := first) (must := must) (seen := seen)
    exact ⟨k, by omega, h2⟩
  | succ k ih =>
    intro s first must seen hk hs
    rw [next1]
    by_cases h : s < text.size
    · rw [dif_pos h]
      by_cases c : c1 text s = true
      · rw [if_pos c]
        exact ⟨5, by omega, run1_yes c h⟩
      · rw [if_neg c]
        obtain ⟨j, seen', hj, e⟩ := run1_next (first := first) (must := must) (seen := seen) (by simpa using c) h
        obtain ⟨N, hN, hF⟩ := ih (s + 1) false false seen' (by omega) (by omega)
        refine ⟨j + N, by omega, ?_⟩
        rw [runFor_add, e]
        exact hF
    · rw [dif_neg h]
      have e : s = text.size := by omega
      subst e
      obtain ⟨k, h1, h2⟩ := run1_last (text := text) (lim := text.size) (first := first) (must := must) (seen := seen)
      exact ⟨k, by omega, h2⟩

theorem for1 (text : Array Nat) (s : Nat) (hs : s ≤ text.size) : ∃ N, N ≤ 4 * text.size + 6 ∧ Found (M.runFor N (forSearch code1 text 0 s text.size false)) ((next1 text s).map fun a => (a, a + 1)) := by
  have e : forSearch code1 text 0 s text.size false = (if (decide (s > text.size) || decide (text.size - s < 1)) = true then { st1 text text.size s true false (({} : Seen).add 14) with start := s, lastStart := 0, frames := [], weight := 0, answer := some false } else st1 text text.size s true false (({} : Seen).add 14)) := rfl
  rw [e]
  by_cases h : s < text.size
  · rw [if_neg (by simp; omega)]
    obtain ⟨N, h1, h2⟩ := search1 text (text.size - s) s true false (({} : Seen).add 14) (Nat.le_refl _) hs
    exact ⟨N, by omega, h2⟩
  · rw [if_pos (by simp; omega), next1, dif_neg h]
    exact ⟨1, by omega, rfl⟩
end Mine
end

/- part Sre2 -/
section
open PySem PySem.Sre
set_option maxRecDepth 100000
namespace Mine
section
variable (text : Array Nat) (lim s : Nat) (first : Bool)
noncomputable def mk2 (seen : Seen) (pc pos handed : Nat) (om : Bool) (fs : List Sre.Frame) (wt : Nat) (ans : Option Bool) : M :=
  { code := code2, text, lim, start := s, lastStart := lim, pc, pos, handed, outermost := om, marks := #[], frames := fs, weight := wt, seen, answer := ans }
noncomputable def fS : Sre.Frame := { wait := .nextStart, pc := 10, pos := s, outermost := first }
noncomputable def fB (j : Nat) : Sre.Frame := { wait := .nextBranch, pc := j, pos := s, outermost := first }
noncomputable def fN (p : Nat) : Sre.Frame := { wait := .lookNot, pc := 26, pos := p, outermost := first }
/-- pattern 2, about to be tried at s -/
noncomputable def st2 (seen : Seen) : M := mk2 text lim s seen 10 s s first [fS s first] 1 none
end
section
variable {text : Array Nat} {lim s : Nat} {first : Bool} {seen : Seen} {pc pos handed wt : Nat} {om : Bool} {fs : List Sre.Frame}

theorem lit2 (c : Nat) (h16 : code2.getD pc 0 = 16) (hc : code2.getD (pc + 1) 0 = c) (hpc : pc < 36) :
    (mk2 text lim s seen pc pos handed om fs wt none).step =
    (if pos < lim ∧ text.getD pos 0 = c then mk2 text lim s (seen.add 16) (pc + 2) (pos + 1) handed om fs wt none else mk2 text lim s (seen.add 16) pc pos handed om fs wt (some false)) := by
  rw [step_exec rfl rfl hpc]
  unfold M.exec
  have hw : (mk2 text lim s seen pc pos handed om fs wt none).word 0 = 16 := h16
  rw [hw]
  have hop : ops[16]? = some Op.LITERAL := rfl
  rw [hop]
  dsimp only
  have hacc : ∀ m : M, m.code = code2 → m.pc = pc → accepts m.code m.pc (text.getD pos 0) m.seen = .ok (text.getD pos 0 == c, m.seen) := by
    intro m e1 e2
    unfold accepts
    rw [e1, e2, h16, hc]
    rfl
  have hiw : itemWidth code2 pc = 2 := by
    unfold itemWidth
    rw [h16]
    rfl
  show (if pos ≥ lim then _ else _) = _
  by_cases h1 : pos < lim
  · rw [if_neg (show ¬ pos ≥ lim by omega)]
    show (match accepts code2 pc (text.getD pos 0) (seen.add 16) with
      | .error why => _
      | .ok (false, seen) => _
      | .ok (true, seen) => _) = _
    have := hacc (mk2 text lim s (seen.add 16) pc pos handed om fs wt none) rfl rfl
    rw [show accepts code2 pc (text.getD pos 0) (seen.add 16) = _ from this]
    by_cases h2 : text.getD pos 0 = c
    · rw [if_pos ⟨h1, h2⟩, show (text.getD pos 0 == c) = true from beq_iff_eq.mpr h2]
      show ({ code := _, text := _, lim := _, start := _, lastStart := _, pc := pc + itemWidth code2 pc, pos := _, handed := _, outermost := _, marks := _, frames := _, weight := _, seen := _, answer := _ } : M) = _
      rw [hiw]
      rfl
    · rw [if_neg (fun q => h2 q.2), show (text.getD pos 0 == c) = false from beq_eq_false_iff_ne.mpr h2]
      rfl
  · rw [if_pos (show pos ≥ lim by omega), if_neg (fun q => h1 q.1)]
    rfl

theorem lit2_yes (c : Nat) (h16 : code2.getD pc 0 = 16) (hc : code2.getD (pc + 1) 0 = c) (hpc : pc < 36) (h1 : pos < lim) (h2 : text.getD pos 0 = c) :
    (mk2 text lim s seen pc pos handed om fs wt none).step = mk2 text lim s (seen.add 16) (pc + 2) (pos + 1) handed om fs wt none := by
  rw [lit2 c h16 hc hpc, if_pos ⟨h1, h2⟩]
theorem lit2_no (c : Nat) (h16 : code2.getD pc 0 = 16) (hc : code2.getD (pc + 1) 0 = c) (hpc : pc < 36) (h : ¬ (pos < lim ∧ text.getD pos 0 = c)) :
    (mk2 text lim s seen pc pos handed om fs wt none).step = mk2 text lim s (seen.add 16) pc pos handed om fs wt (some false) := by
  rw [lit2 c h16 hc hpc, if_neg h]

theorem branch2 : (mk2 text lim s seen 10 s handed first [fS s first] 1 none).step = mk2 text lim s (seen.add 7) 12 s s first [fB s first 11, fS s first] 2 none := by
  rw [step_exec rfl rfl (Nat.le_of_ble_eq_true rfl)]; rfl
theorem jump16 : (mk2 text lim s seen 16 pos handed om fs wt none).step = mk2 text lim s (seen.add 15) 35 pos handed om fs wt none := by
  rw [step_exec rfl rfl (Nat.le_of_ble_eq_true rfl)]; rfl
theorem jump21 : (mk2 text lim s seen 21 pos handed om fs wt none).step = mk2 text lim s (seen.add 15) 35 pos handed om fs wt none := by
  rw [step_exec rfl rfl (Nat.le_of_ble_eq_true rfl)]; rfl
theorem jump32 : (mk2 text lim s seen 32 pos handed om fs wt none).step = mk2 text lim s (seen.add 15) 35 pos handed om fs wt none := by
  rw [step_exec rfl rfl (Nat.le_of_ble_eq_true rfl)]; rfl
theorem succ35 : (mk2 text lim s seen 35 pos handed om fs wt none).step = mk2 text lim s (seen.add 1) 35 pos pos om fs wt (some true) := by
  rw [step_exec rfl rfl (Nat.le_of_ble_eq_true rfl)]
  show (if (om && ((false && pos != lim) || (false && pos == s))) = true then _ else _) = _
  rw [if_neg (by simp)]
  rfl
theorem backB_yes {j : Nat} : (mk2 text lim s seen pc pos handed om (fB s first j :: fs) 2 (some true)).step = mk2 text lim s seen j s handed first fs 1 (some true) := by
  rw [step_resume rfl rfl rfl]; rfl
theorem backS_yes : (mk2 text lim s seen pc pos handed om [fS s first] 1 (some true)).step = mk2 text lim s seen 10 s handed first [] 0 (some true) := by
  rw [step_resume rfl rfl rfl]; rfl
theorem backB_no11 : (mk2 text lim s seen pc pos handed om [fB s first 11, fS s first] 2 (some false)).step = mk2 text lim s seen 19 s s first [fB s first 18, fS s first] 2 none := by
  rw [step_resume rfl rfl rfl]; rfl
theorem backB_no18 : (mk2 text lim s seen pc pos handed om [fB s first 18, fS s first] 2 (some false)).step = mk2 text lim s seen 24 s s first [fB s first 23, fS s first] 2 none := by
  rw [step_resume rfl rfl rfl]; rfl
theorem assert26 : (mk2 text lim s seen 26 pos handed om fs 2 none).step = mk2 text lim s (seen.add 5) 29 pos pos false (fN om pos :: fs) 3 none := by
  rw [step_exec rfl rfl (Nat.le_of_ble_eq_true rfl)]; rfl
theorem backN_no {p : Nat} : (mk2 text lim s seen pc pos handed false (fN om p :: fs) 3 (some false)).step = mk2 text lim s seen 32 p handed om fs 2 none := by
  rw [step_resume rfl rfl rfl]; rfl
theorem end2 : (mk2 text lim s seen pc pos handed om [] wt (some true)).step = { mk2 text lim s seen pc pos handed om [] wt (some true) with outcome := some .matched } := by
  rw [step_end rfl rfl rfl]; rfl

theorem run2_A (h1 : s + 1 < lim) (e1 : text.getD s 0 = 13) (e2 : text.getD (s + 1) 0 = 10) : Found (M.runFor 8 (st2 text lim s first seen)) (some (s, s + 2)) := by
  unfold st2
  rw [runFor_succ _ _ rfl, branch2, runFor_succ _ _ rfl, lit2_yes 13 rfl rfl (by omega) (by omega) e1, runFor_succ _ _ rfl, lit2_yes 10 rfl rfl (by omega) h1 e2, runFor_succ _ _ rfl, jump16, runFor_succ _ _ rfl, succ35,
    runFor_succ _ _ rfl, backB_yes, runFor_succ _ _ rfl, backS_yes, runFor_succ _ _ rfl, end2]
  exact ⟨rfl, rfl, rfl⟩
theorem run2_B (h1 : s < lim) (e1 : text.getD s 0 = 10) : Found (M.runFor 9 (st2 text lim s first seen)) (some (s, s + 1)) := by
  unfold st2
  rw [runFor_succ _ _ rfl, branch2, runFor_succ _ _ rfl, lit2_no 13 rfl rfl (by omega) (by rw [e1]; simp), runFor_succ _ _ rfl, backB_no11, runFor_succ _ _ rfl, lit2_yes 10 rfl rfl (by omega) h1 e1, runFor_succ _ _ rfl, jump21, runFor_succ _ _ rfl, succ35,
    runFor_succ _ _ rfl, backB_yes, runFor_succ _ _ rfl, backS_yes, runFor_succ _ _ rfl, end2]
  exact ⟨rfl, rfl, rfl⟩
theorem run2_C (h1 : s < lim) (e1 : text.getD s 0 = 13) (e2 : ¬ (s + 1 < lim ∧ text.getD (s + 1) 0 = 10)) : Found (M.runFor 15 (st2 text lim s first seen)) (some (s, s + 1)) := by
  unfold st2
  rw [runFor_succ _ _ rfl, branch2, runFor_succ _ _ rfl, lit2_yes 13 rfl rfl (by omega) h1 e1, runFor_succ _ _ rfl, lit2_no 10 rfl rfl (by omega) e2, runFor_succ _ _ rfl, backB_no11, runFor_succ _ _ rfl, lit2_no 10 rfl rfl (by omega) (by rw [e1]; simp),
    runFor_succ _ _ rfl, backB_no18, runFor_succ _ _ rfl, lit2_yes 13 rfl rfl (by omega) h1 e1, runFor_succ _ _ rfl, assert26, runFor_succ _ _ rfl, lit2_no 10 rfl rfl (by omega) e2, runFor_succ _ _ rfl, backN_no, runFor_succ _ _ rfl, jump32, runFor_succ _ _ rfl, succ35,
    runFor_succ _ _ rfl, backB_yes, runFor_succ _ _ rfl, backS_yes, runFor_succ _ _ rfl, end2]
  exact ⟨rfl, rfl, rfl⟩
end

noncomputable def next2 (text : Array Nat) (s : Nat) : Option (Nat × Nat) :=
  if _h : s < text.size then
    (if text.getD s 0 = 10 then some (s, s + 1) else if text.getD s 0 = 13 then (if s + 1 < text.size ∧ text.getD (s + 1) 0 = 10 then some (s, s + 2) else some (s, s + 1)) else next2 text (s + 1))
  else none
termination_by text.size - s

theorem inSet2 (c : Nat) (seen : Seen) : inSet code2 c 36 5 true seen = (if (c == 10) = true then .ok (true, seen.add 16) else if (c == 13) = true then .ok (true, (seen.add 16).add 16) else .ok (false, ((seen.add 16).add 16).add 0)) := rfl

theorem admitted2 {m : M} (hc : m.code = code2) (hl : m.lim = m.text.size) : ∀ (fuel s : Nat) (seen : Seen), m.text.size + 1 - s ≤ fuel →
    (next2 m.text s = none ∧ ∃ seen', M.admitted m fuel s seen = .ok (none, seen')) ∨
    (∃ p seen', p < m.text.size ∧ (m.text.getD p 0 = 10 ∨ m.text.getD p 0 = 13) ∧ next2 m.text s = next2 m.text p ∧ M.admitted m fuel s seen = .ok (some p, seen')) := by
  intro fuel
  induction fuel with
  | zero =>
    intro s seen hf
    left
    rw [next2, dif_neg (by omega)]
    exact ⟨rfl, seen, rfl⟩
  | succ fuel ih =>
    intro s seen hf
    rw [M.admitted]
    by_cases h : s < m.text.size
    · rw [if_neg (by rw [hl]; omega), hc]
      rw [show inSet code2 (m.text.getD s 0) code2.size 5 true seen = inSet code2 (m.text.getD s 0) 36 5 true seen from rfl, inSet2]
      by_cases h1 : m.text.getD s 0 = 10
      · right
        rw [if_pos (beq_iff_eq.mpr h1)]
        exact ⟨s, _, h, .inl h1, rfl, rfl⟩
      · rw [if_neg (fun q => h1 (beq_iff_eq.mp q))]
        by_cases h2 : m.text.getD s 0 = 13
        · right
          rw [if_pos (beq_iff_eq.mpr h2)]
          exact ⟨s, _, h, .inr h2, rfl, rfl⟩
        · rw [if_neg (fun q => h2 (beq_iff_eq.mp q))]
          have e : next2 m.text s = next2 m.text (s + 1) := by
            rw [next2, dif_pos h, if_neg h1, if_neg h2]
          rw [e]
          exact ih (s + 1) _ (by omega)
    · left
      rw [if_pos (by rw [hl]; omega), next2, dif_neg h]
      exact ⟨rfl, seen, rfl⟩

theorem for2 (text : Array Nat) (s : Nat) (hs : s ≤ text.size) : ∃ N, N ≤ 16 ∧ Found (M.runFor N (forSearch code2 text 0 s text.size false)) (next2 text s) := by
  let m0 : M := { code := code2, text, lim := text.size, start := s, lastStart := text.size, pc := 10, pos := s, handed := s, marks := #[], seen := ({} : Seen).add 14 }
  have e : forSearch code2 text 0 s text.size false = (if (decide (s > text.size) || decide (text.size - s < 1)) = true then { m0 with lastStart := 0, answer := some false } else
      (match M.admitted m0 (text.size + 1 - s) s (({} : Seen).add 14) with
        | .ok (some p, seen') => { m0 with mustAdvance := false, seen := seen' }.attemptAt p true
        | .ok (none, seen') => { m0 with seen := seen' }.say false
        | .error why => m0.stick why)) := rfl
  rw [e]
  by_cases h : s < text.size
  · rw [if_neg (by simp; omega)]
    rcases admitted2 (m := m0) rfl rfl (text.size + 1 - s) s (({} : Seen).add 14) (Nat.le_refl _) with ⟨hn, seen', ha⟩ | ⟨p, seen', hp, hpc, hn, ha⟩
    · rw [ha]
      have hn' : next2 text s = none := hn
      rw [hn']
      exact ⟨1, by omega, rfl⟩
    · rw [ha]
      have hn' : next2 text s = next2 text p := hn
      rw [hn', next2, dif_pos hp]
      show ∃ N, N ≤ 16 ∧ Found (M.runFor N (st2 text text.size p true seen')) _
      by_cases h1 : text.getD p 0 = 10
      · rw [if_pos h1]
        exact ⟨9, by omega, run2_B hp h1⟩
      · have h2 : text.getD p 0 = 13 := hpc.resolve_left h1
        rw [if_neg h1, if_pos h2]
        by_cases h3 : p + 1 < text.size ∧ text.getD (p + 1) 0 = 10
        · rw [if_pos h3]
          exact ⟨8, by omega, run2_A h3.1 h2 h3.2⟩
        · rw [if_neg h3]
          exact ⟨15, by omega, run2_C hp h2 h3⟩
  · rw [if_pos (by simp; omega), next2, dif_neg h]
    exact ⟨1, by omega, rfl⟩
end Mine
end

/- part ReSub -/
section
open PySem PySem.W PyProof.Rows PySem.Builtin.Re
set_option Elab.async false
set_option maxRecDepth 100000
namespace Mine
section
variable {M : Model} {A : Around} {E : Value → Shared → Prop} {s : Shared}

theorem runFor_same {a b : Nat} {m : Sre.M} (ha : (Sre.M.runFor a m).outcome.isSome = true) (hb : (Sre.M.runFor b m).outcome.isSome = true) : Sre.M.runFor a m = Sre.M.runFor b m := by
  rcases Nat.le_total a b with h | h
  · obtain ⟨k, rfl⟩ := Nat.exists_eq_add_of_le h
    rw [runFor_add, runFor_done _ _ ha]
  · obtain ⟨k, rfl⟩ := Nat.exists_eq_add_of_le h
    rw [runFor_add, runFor_done _ _ hb]

theorem reDrive_ok {Q : Sre.M → Shared → Prop} : ∀ (turns N : Nat) (m : Sre.M), 0 < turns → N ≤ 4 * turns → (Sre.M.runFor N m).outcome.isSome = true → Q (Sre.M.runFor N m) s → wpAny M A (reDrive turns m) Q E s := by
  intro turns
  induction turns with
  | zero => intro N m h; omega
  | succ k ih =>
    intro N m _ hN ho hq
    rw [reDrive]
    rw [show reTurnSteps = 4 from rfl]
    by_cases h : (Sre.M.runFor 4 m).outcome.isSome = true
    · rw [if_pos h, runFor_same h ho]
      exact wpAny_pure hq
    · rw [if_neg h]
      have h4 : 4 < N := by
        rcases Nat.lt_or_ge 4 N with q | q
        · exact q
        · exfalso
          obtain ⟨j, hj⟩ := Nat.exists_eq_add_of_le q
          rw [hj, runFor_add, runFor_done _ _ ho] at h
          exact h ho
      have e : Sre.M.runFor N m = Sre.M.runFor (N - 4) (Sre.M.runFor 4 m) := by
        rw [← runFor_add]; congr 1; omega
      rw [e] at ho hq
      refine wpAny_bind (wpAny_rule (ih (N - 4) _ ?_ (by omega) ho hq))
      rcases Nat.eq_zero_or_pos k with q | q
      · subst q; omega
      · exact q

theorem reRun_ok {Q : Option Sre.M → Shared → Prop} {N : Nat} {m : Sre.M} {r : Option (Nat × Nat)} (hN : N ≤ 2 ^ 60) (hF : Found (Sre.M.runFor N m) r)
    (h : Q (r.map fun _ => Sre.M.runFor N m) s) : wpAny M A (reRunToEnd m) Q E s := by
  have ho : (Sre.M.runFor N m).outcome.isSome = true := by
    cases r with
    | none => have : (Sre.M.runFor N m).outcome = some .failed := hF; rw [this]; rfl
    | some ab => have : (Sre.M.runFor N m).outcome = some .matched := hF.1; rw [this]; rfl
  unfold reRunToEnd
  refine wpAny_bind (reDrive_ok (2 ^ 64) N m (Nat.pos_of_ne_zero (by decide)) (Nat.le_trans hN (by decide)) ho ?_)
  refine wpAny_bind (wpAny_forIn_list _ (fun _ _ s' => s' = s) _ ?_ ?_ _ _ rfl)
  · rintro x rest b s' rfl
    refine wpAny_ite ?_
    split
    · exact wpAny_bind (wpAny_rule (wpAny_pure rfl))
    · exact wpAny_pure rfl
  · rintro b s' rfl
    cases r with
    | none =>
      have e : (Sre.M.runFor N m).outcome = some .failed := hF
      rw [e]
      exact wpAny_pure h
    | some ab =>
      have e : (Sre.M.runFor N m).outcome = some .matched := hF.1
      rw [e]
      exact wpAny_pure h
end

abbrev patO (ps : Str) (t1 : Tok) (fl : Int) (t2 : Tok) (ct : Addr) : Obj := { cls := .type "re.Pattern", data := .fields #[.str ps t1, .int fl t2, .int 0 0, .none, .none, .ref ct, .int 0 0] }
/-- the pattern's object and its code's -/
structure IsPat (h : Heap) (pat : Addr) (code : Array Nat) : Prop where
  ex : ∃ ps t1 fl t2 ct cv, h.get? pat = some (patO ps t1 fl t2 ct) ∧ h.get? ct = some { cls := .type "tuple", data := .seq cv } ∧ (cv.map reRawOf).map (·.toNat) = code
theorem IsPat.keeps {h h' : Heap} {pat : Addr} {code : Array Nat} (x : IsPat h pat code) (k : ∀ b o, h.get? b = some o → h'.get? b = some o) : IsPat h' pat code := by
  obtain ⟨ps, t1, fl, t2, ct, cv, a, b, c⟩ := x.ex
  exact ⟨ps, t1, fl, t2, ct, cv, k _ _ a, k _ _ b, c⟩

section
variable {prog : Program} {w : World} {A : Around} {E : Value → Shared → Prop} {s : Shared} {pat : Addr} {code : Array Nat} {x : Str} {t : Tok}
theorem whole_ok {M : Model} {Q : ReTarget → Shared → Prop} (hp : IsPat s.heap pat code) (h : Q { pattern := .ref pat, string := .str x t, code, text := x.cps, kind := 0, groups := 0, pos := 0, lim := x.cps.size } s) :
    wpAny M A (reWholeTarget (.ref pat) (.str x t)) Q E s := by
  obtain ⟨ps, t1, fl, t2, ct, cv, h1, h2, h3⟩ := hp.ex
  unfold reWholeTarget
  refine wpAny_bind (wpAny_fieldsOf h1 rfl ?_)
  refine wpAny_bind (wpAny_of_eq (a := (x.cps, 0)) rfl ?_)
  dsimp only
  refine wpAny_bind (wpAny_of_eq (a := ()) rfl ?_)
  refine wpAny_bind ?_
  unfold reRawItems
  refine wpAny_bind (wpAny_seqItems h2 rfl (wpAny_pure ?_))
  refine wpAny_pure ?_
  rw [show (Option.getD (some cv) #[]).map reRawOf = cv.map reRawOf from rfl, h3]
  exact h

theorem no_str_call : typeLookup (.type "str") "__call__" = pure none := by rw [typeLookup_type, builtinLookup_eq_fast]; kernel_rfl
theorem sub_enter {Q : Value → Shared → Prop} {r : Str} {tr : Tok} (hp : IsPat s.heap pat code) (hr : r.cps.contains 92 = false)
    (h : ∀ h' : Heap, h' = s.heap.push { cls := .type "list", data := .seq #[] } → codeAny (model prog w) A (.builtin "re.Pattern.sub.loop" ⟨[.ref pat, .str x t, .str r tr, rawInt 0, rawInt 0, rawInt 0, rawInt 0, rawInt 0, .bool false, .ref s.heap.objs.size, .bool false], []⟩)
      (fun r s' => match r with | .ok (.ret v) => Q v s' | .ok _ => False | .error e => E e s') { s with heap := h' }) :
    wpAny (model prog w) A (call (.builtin "re.Pattern.sub") [.ref pat, .str r tr, .str x t]) Q E s := by
  have hT : s.TypeIs (.ref pat) "re.Pattern" := by
    obtain ⟨ps, t1, fl, t2, ct, cv, h1, h2, h3⟩ := hp.ex
    exact ⟨_, h1, rfl⟩
  refine wpAny_call (codeAny_call_builtin slot_rp_sub.plain entry_rp_sub (slot_rp_sub.check _ _ _ _ _ _ _ _ hT (args_rp_sub_3 _ _ _) ?_))
  unfold Builtin.«re.Pattern.sub» reSubstitute
  refine wpAny_bind (wpAny_of_eq (a := [some (.str r tr), some (.str x t), none]) rfl ?_)
  try dsimp only
  refine wpAny_bind (wpAny_pure ?_)
  refine wpAny_bind (wpAny_specialOf (typeIs_str _ _ _) no_str_call ?_)
  try dsimp only
  rw [if_neg (by simp)]
  refine wpAny_bind (wpAny_of_eq (a := some r) rfl ?_)
  try dsimp only
  refine wpAny_bind (wpAny_pure ?_)
  try dsimp only
  rw [if_neg (by simp), hr, if_pos (by rfl)]
  refine wpAny_bind (wpAny_pure ?_)
  try dsimp only
  refine wpAny_bind (wpAny_holding (whole_ok hp ?_))
  rw [if_neg (by decide)]
  refine wpAny_bind (wpAny_newList ?_ (Nat.zero_le _))
  refine wpAny_pure ⟨plainId_quiet plain_rp_loop _, ?_⟩
  exact h _ rfl
end
end Mine
end

/- part ReLoop -/
section
open PySem PySem.W PyProof.Rows PySem.Builtin.Re
set_option Elab.async false
set_option maxRecDepth 100000
namespace Mine
/-- a text with each found part replaced, from p on -/
noncomputable def substF (find : Nat → Option (Nat × Nat)) (text r : List Nat) : Nat → Nat → List Nat
  | 0, p => text.drop p
  | k + 1, p => match find p with
    | some (a, b) => (text.take a).drop p ++ r ++ substF find text r k b
    | none => text.drop p

noncomputable def catL (l : List (Str × Tok)) : List Nat := (l.map fun p => p.1.cps.toList).flatten
noncomputable def lenL (l : List (Str × Tok)) : Nat := (l.map fun p => p.1.length).sum

theorem glued_nil : ∀ (texts : List Str), (Txt.join ⟨#[]⟩ texts).cps.toList = (texts.map fun p => p.cps.toList).flatten := by
  have go : ∀ (ps : List Str) (acc : Array Nat), (ps.foldl (fun (acc : Array Nat) p => acc ++ (#[] : Array Nat) ++ p.cps) acc).toList = acc.toList ++ (ps.map fun p => p.cps.toList).flatten := by
    intro ps
    induction ps with
    | nil => intro acc; simp
    | cons p r ih => intro acc; rw [List.foldl_cons, ih]; simp
  intro texts
  show ((texts.drop 1).foldl (fun (acc : Array Nat) p => acc ++ (#[] : Array Nat) ++ p.cps) (texts.headD Str.empty).cps).toList = _
  rw [go]
  cases texts with
  | nil => simp [Str.empty]
  | cons p r => simp

theorem toList_slice (a : Array Nat) (p q : Nat) : (a.extract p q).toList = (a.toList.take q).drop p := by
  rw [Array.toList_extract, List.drop_take]
theorem toList_slice_end (a : Array Nat) (p : Nat) : (a.extract p a.size).toList = a.toList.drop p := by
  rw [toList_slice, ← Array.length_toList, List.take_length]
theorem catL_snoc (l : List (Str × Tok)) (y : Str) (u : Tok) : catL (l ++ [(y, u)]) = catL l ++ y.cps.toList := by simp [catL]
theorem lenL_snoc (l : List (Str × Tok)) (y : Str) (u : Tok) : lenL (l ++ [(y, u)]) = lenL l + y.cps.size := by simp [lenL, Str.length]
theorem extract00 (a : Array Nat) : (⟨a.extract 0 0⟩ : Str) = ⟨#[]⟩ := by simp

section
variable {prog : Program} {w : World} {A : Around} {E : Value → Shared → Prop} {pat : Addr} {code : Array Nat} {x : Str} {t : Tok}

theorem keep_pat {h h' : Heap} {pl : Addr} {o : Obj} {its : Array Value} {n : Nat} (hp : IsPat h pat code) (hl : h.get? pl = some (W.listOf its n)) (k : ∀ b o, b ≠ pl → h.get? b = some o → h'.get? b = some o) : IsPat h' pat code := by
  obtain ⟨ps, t1, fl, t2, ct, cv, a, b, c⟩ := hp.ex
  refine ⟨ps, t1, fl, t2, ct, cv, k _ _ ?_ a, k _ _ ?_ b, c⟩
  · rintro rfl; rw [hl] at a; simp at a
  · rintro rfl; rw [hl] at b; simp at b

theorem push_upd {h : Heap} {pl : Addr} {its : List Value} {n : Nat} (hl : h.get? pl = some (W.listOf its.toArray n)) (v : Value) :
    (h.update pl (Obj.mapSeq (·.push v))).get? pl = some (W.listOf (its ++ [v]).toArray (n + 1)) ∧ ∀ b o, b ≠ pl → h.get? b = some o → (h.update pl (Obj.mapSeq (·.push v))).get? b = some o := by
  have q := PySem.IsL.update (l := pl) (n := n) hl (fun xs => xs.push v)
  refine ⟨?_, fun b o hb e => (Heap.get?_update_ne _ _ _ _ hb).trans e⟩
  have e : its.toArray.push v = (its ++ [v]).toArray := by simp
  rw [e] at q
  rw [if_neg (by simp)] at q
  exact q

theorem strValues_snoc (l : List (Str × Tok)) (y : Str) (u : Tok) : strValues (l ++ [(y, u)]) = strValues l ++ [.str y u] := by simp [strValues]
theorem size_pieces {l : List (Str × Tok)} {k : Nat} (h : l.length ≤ k) (hk : k ≤ 16777216) : (strValues l).toArray.size ≤ sizeLine := by
  rw [List.size_toArray, sizeLine_eq]
  unfold strValues
  rw [List.length_map]; omega

theorem strsAre_strValues : ∀ l : List (Str × Tok), StrsAre ((strValues l).toArray).toList (l.map Prod.fst) := by
  intro l
  rw [List.toList_toArray]
  induction l with
  | nil => exact .nil
  | cons p r ih => exact .cons _ _ ih
theorem sub_turn {r : Str} {tr : Tok} {R : Result → Shared → Prop} {p : Nat} {l : List (Str × Tok)} {n : Nat} {cnt : Int} {pl : Addr} {s : Shared} {fp : Option (Nat × Nat)} (hx : x.cps.size ≤ 2 ^ 20) (hp : p ≤ x.cps.size) (hl1 : l.length ≤ 2 * p) (hl2 : lenL l ≤ 3 * p)
    (hfind : ∃ N, N ≤ 2 ^ 60 ∧ Found (Sre.M.runFor N (Sre.forSearch code x.cps 0 p x.cps.size false)) fp) (hord : ∀ a b, fp = some (a, b) → p ≤ a ∧ a < b ∧ b ≤ x.cps.size)
    (hpat : IsPat s.heap pat code) (hpl : s.heap.get? pl = some (W.listOf (strValues l).toArray n))
    (hnone : fp = none → ∀ h' tk t', (∀ b o, b ≠ pl → s.heap.get? b = some o → h'.get? b = some o) → R (.ok (.ret (.str ⟨(catL l ++ x.cps.toList.drop p).toArray⟩ t'))) { s with heap := h', toks := tk })
    (hsome : ∀ a b, fp = some (a, b) → ∀ l' n' h' tk, l'.length ≤ l.length + 2 → lenL l' = lenL l + (a - p) + r.cps.size → catL l' = catL l ++ ((x.cps.toList.take a).drop p ++ r.cps.toList) → h'.get? pl = some (W.listOf (strValues l').toArray n') →
      (∀ b o, b ≠ pl → s.heap.get? b = some o → h'.get? b = some o) →
      codeAny (model prog w) A (.builtin "re.Pattern.sub.loop" ⟨[.ref pat, .str x t, .str r tr, rawInt 0, rawInt 0, rawInt (cnt + 1), rawInt b, rawInt b, .bool false, .ref pl, .bool false], []⟩) R { s with heap := h', toks := tk }) :
    codeAny (model prog w) A (.builtin "re.Pattern.sub.loop" ⟨[.ref pat, .str x t, .str r tr, rawInt 0, rawInt 0, rawInt cnt, rawInt p, rawInt p, .bool false, .ref pl, .bool false], []⟩) R s := by
  refine codeAny_builtin entry_rp_loop ?_
  rw [Around.under_plainId plain_rp_loop _]
  unfold Builtin.«re.Pattern.sub.loop»
  dsimp only [rawInt]
  refine wpAny_bind (whole_ok hpat ?_)
  dsimp only
  rw [if_pos (by rfl)]
  refine wpAny_bind (wpAny_of_eq (a := ()) rfl ?_)
  rw [if_neg (by simp)]
  obtain ⟨N, hN, hF⟩ := hfind
  refine wpAny_bind (reRun_ok (N := N) hN (r := fp) ?_ ?_)
  · rw [Int.toNat_natCast]; exact hF
  rw [Int.toNat_natCast]
  cases fp with
  | none =>
    dsimp only [Option.map]
    by_cases hlt : p < x.cps.size
    · rw [if_pos hlt]
      refine wpAny_bind ?_
      unfold reSlice
      rw [if_pos (by rfl)]
      refine wpAny_mkStr ?_ (by show (x.cps.extract p x.cps.size).size ≤ _; rw [Array.size_extract, sizeLine_eq]; omega)
      obtain ⟨q1, q2⟩ := push_upd hpl (.str ⟨x.cps.extract p x.cps.size⟩ s.toks)
      refine wpAny_bind (wpAny_updateSeq hpl rfl ?_ (size_pieces hl1 (by omega)) (by rw [Array.size_push]; have := size_pieces hl1 (by omega); omega))
      rw [← strValues_snoc] at q1
      have hs2 : lenL (l ++ [((⟨x.cps.extract p x.cps.size⟩ : Str), s.toks)]) = lenL l + (x.cps.size - p) := by
        rw [lenL_snoc, Array.size_extract]; omega
      have hc2 : catL (l ++ [((⟨x.cps.extract p x.cps.size⟩ : Str), s.toks)]) = catL l ++ x.cps.toList.drop p := by
        rw [catL_snoc, toList_slice_end]
      refine wpAny_bind ?_
      try unfold reSlice
      rw [if_pos (by rfl)]
      refine wpAny_mkStr ?_ (by rw [extract00]; exact Nat.zero_le _)
      rw [extract00]
      refine wpAny_bind (wpAny_seqItems q1 rfl ?_)
      rw [show (Option.getD (some (strValues (l ++ [((⟨x.cps.extract p x.cps.size⟩ : Str), s.toks)])).toArray) #[]) = (strValues (l ++ [((⟨x.cps.extract p x.cps.size⟩ : Str), s.toks)])).toArray from rfl]
      by_cases hemp : (strValues (l ++ [((⟨x.cps.extract p x.cps.size⟩ : Str), s.toks)])).toArray.isEmpty = true
      · rw [if_pos hemp]
        refine wpAny_bind (wpAny_pure ?_)
        rw [if_neg (by simp)]
        refine wpAny_pure ?_
        have el : (l ++ [((⟨x.cps.extract p x.cps.size⟩ : Str), s.toks)]) = [] := by
          rw [List.isEmpty_toArray] at hemp
          unfold strValues at hemp
          simpa using hemp
        exact absurd el (by simp)
      · rw [if_neg hemp, if_pos (by rfl)]
        refine wpAny_bind (join_list (ys := (l ++ [((⟨x.cps.extract p x.cps.size⟩ : Str), s.toks)]).map Prod.fst) (PySem.IsL.isList q1) (strsAre_strValues _) ?_ ?_)
        · show _ + _ * 0 ≤ _
          have := hs2
          rw [List.map_map]
          show lenL (l ++ [((⟨x.cps.extract p x.cps.size⟩ : Str), s.toks)]) + _ ≤ _
          omega
        intro t' k'
        rw [if_neg (by simp)]
        refine wpAny_pure ?_
        have ec : (Txt.join ⟨#[]⟩ ((l ++ [((⟨x.cps.extract p x.cps.size⟩ : Str), s.toks)]).map Prod.fst)).cps.toList = catL (l ++ [((⟨x.cps.extract p x.cps.size⟩ : Str), s.toks)]) := by
          rw [glued_nil, List.map_map]; rfl
        have e3 : Txt.join ⟨#[]⟩ ((l ++ [((⟨x.cps.extract p x.cps.size⟩ : Str), s.toks)]).map Prod.fst) = ⟨(catL l ++ x.cps.toList.drop p).toArray⟩ := by
          rw [← hc2, ← ec]
        rw [e3]
        exact hnone rfl _ _ _ q2
    · rw [if_neg hlt]
      have hd : x.cps.toList.drop p = [] := List.drop_of_length_le (by rw [Array.length_toList]; omega)
      refine wpAny_bind ?_
      unfold reSlice
      rw [if_pos (by rfl)]
      refine wpAny_mkStr ?_ (by rw [extract00]; exact Nat.zero_le _)
      rw [extract00]
      refine wpAny_bind (wpAny_seqItems hpl rfl ?_)
      rw [show (Option.getD (some (strValues (l)).toArray) #[]) = (strValues (l)).toArray from rfl]
      by_cases hemp : (strValues (l)).toArray.isEmpty = true
      · rw [if_pos hemp]
        refine wpAny_bind (wpAny_pure ?_)
        rw [if_neg (by simp)]
        refine wpAny_pure ?_
        have el : (l) = [] := by
          rw [List.isEmpty_toArray] at hemp
          unfold strValues at hemp
          simpa using hemp
        have ec : catL (l) = [] := by rw [el]; rfl
        have e3 : (⟨#[]⟩ : Str) = ⟨(catL l ++ x.cps.toList.drop p).toArray⟩ := by rw [ec, hd]; rfl
        rw [e3]
        exact hnone rfl s.heap _ _ (fun _ _ _ e => e)
      · rw [if_neg hemp, if_pos (by rfl)]
        refine wpAny_bind (join_list (ys := (l).map Prod.fst) (PySem.IsL.isList hpl) (strsAre_strValues _) ?_ ?_)
        · show _ + _ * 0 ≤ _
          have := hl2
          rw [List.map_map]
          show lenL (l) + _ ≤ _
          omega
        intro t' k'
        rw [if_neg (by simp)]
        refine wpAny_pure ?_
        have ec : (Txt.join ⟨#[]⟩ ((l).map Prod.fst)).cps.toList = catL (l) := by
          rw [glued_nil, List.map_map]; rfl
        have e3 : Txt.join ⟨#[]⟩ (l.map Prod.fst) = ⟨(catL l ++ x.cps.toList.drop p).toArray⟩ := by
          rw [hd, List.append_nil, ← ec]
        rw [e3]
        exact hnone rfl s.heap _ _ (fun _ _ _ e => e)

  | some ab =>
    obtain ⟨a, b⟩ := ab
    obtain ⟨h1, h2, h3⟩ := hord a b rfl
    obtain ⟨f1, f2, f3⟩ := hF
    dsimp only [Option.map]
    rw [f2, f3]
    have hba : (b == a) = false := beq_eq_false_iff_ne.mpr (by omega)
    by_cases hlt : p < a
    · rw [if_pos hlt]
      refine wpAny_bind ?_
      unfold reSlice
      rw [if_pos (by rfl)]
      refine wpAny_mkStr ?_ (by show (x.cps.extract p a).size ≤ _; rw [Array.size_extract, sizeLine_eq]; omega)
      obtain ⟨q1, q2⟩ := push_upd hpl (.str ⟨x.cps.extract p a⟩ s.toks)
      refine wpAny_bind (wpAny_updateSeq hpl rfl ?_ (size_pieces hl1 (by omega)) (by rw [Array.size_push]; have := size_pieces hl1 (by omega); omega))
      rw [← strValues_snoc] at q1
      rw [if_pos (by rfl)]
      refine wpAny_bind (wpAny_pure ?_)
      rw [if_pos (by rfl)]
      obtain ⟨q3, q4⟩ := push_upd q1 (.str r tr)
      have hz : (l ++ [((⟨x.cps.extract p a⟩ : Str), s.toks)]).length ≤ 2 * p + 1 := by simp; omega
      refine wpAny_bind (wpAny_updateSeq q1 rfl ?_ (size_pieces hz (by omega)) (by rw [Array.size_push]; have := size_pieces hz (by omega); omega))
      rw [← strValues_snoc] at q3
      refine wpAny_pure ⟨plainId_quiet plain_rp_loop _, ?_⟩
      rw [hba]
      refine hsome a b rfl _ _ _ _ ?_ ?_ ?_ q3 (fun b o hb e => q4 b o hb (q2 b o hb e))
      · simp
      · rw [lenL_snoc, lenL_snoc, Array.size_extract]; omega
      · rw [catL_snoc, catL_snoc, toList_slice, List.append_assoc]
    · rw [if_neg hlt, if_pos (by rfl)]
      refine wpAny_bind (wpAny_pure ?_)
      rw [if_pos (by rfl)]
      obtain ⟨q3, q4⟩ := push_upd hpl (.str r tr)
      refine wpAny_bind (wpAny_updateSeq hpl rfl ?_ (size_pieces hl1 (by omega)) (by rw [Array.size_push]; have := size_pieces hl1 (by omega); omega))
      rw [← strValues_snoc] at q3
      refine wpAny_pure ⟨plainId_quiet plain_rp_loop _, ?_⟩
      rw [hba]
      refine hsome a b rfl _ _ _ _ ?_ ?_ ?_ q3 q4
      · simp
      · rw [lenL_snoc]; omega
      · have e0 : (x.cps.toList.take a).drop p = [] := List.drop_of_length_le (by rw [List.length_take]; omega)
        rw [e0]
        rw [catL_snoc, List.nil_append]

theorem sub_loop {find : Nat → Option (Nat × Nat)} {r : Str} {tr : Tok} {R : Result → Shared → Prop} (hx : x.cps.size ≤ 2 ^ 20) (hr2 : r.cps.size ≤ 2)
    (hfind : ∀ p, p ≤ x.cps.size → ∃ N, N ≤ 2 ^ 60 ∧ Found (Sre.M.runFor N (Sre.forSearch code x.cps 0 p x.cps.size false)) (find p))
    (hord : ∀ p a b, find p = some (a, b) → p ≤ a ∧ a < b ∧ b ≤ x.cps.size) :
    ∀ (k p : Nat) (l : List (Str × Tok)) (n : Nat) (cnt : Int) (pl : Addr) (s : Shared), x.cps.size - p ≤ k → p ≤ x.cps.size → l.length ≤ 2 * p → lenL l ≤ 3 * p → IsPat s.heap pat code →
      s.heap.get? pl = some (W.listOf (strValues l).toArray n) →
      (∀ h' tk t', (∀ b o, b ≠ pl → s.heap.get? b = some o → h'.get? b = some o) → R (.ok (.ret (.str ⟨(catL l ++ substF find x.cps.toList r.cps.toList k p).toArray⟩ t'))) { s with heap := h', toks := tk }) →
      codeAny (model prog w) A (.builtin "re.Pattern.sub.loop" ⟨[.ref pat, .str x t, .str r tr, rawInt 0, rawInt 0, rawInt cnt, rawInt p, rawInt p, .bool false, .ref pl, .bool false], []⟩) R s := by
  intro k
  induction k with
  | zero =>
    intro p l n cnt pl s hk hp hl1 hl2 hpat hpl h
    refine sub_turn hx hp hl1 hl2 (hfind p hp) (hord p) hpat hpl (fun _ => h) (fun a b e => ?_)
    have := hord p a b e
    omega
  | succ k ih =>
    intro p l n cnt pl s hk hp hl1 hl2 hpat hpl h
    refine sub_turn hx hp hl1 hl2 (hfind p hp) (hord p) hpat hpl (fun e => ?_) (fun a b e l' n' h' tk g1 g2 g3 g4 g5 => ?_)
    · rw [substF, e] at h
      exact h
    · obtain ⟨o1, o2, o3⟩ := hord p a b e
      rw [substF, e] at h
      refine ih b l' n' (cnt + 1) pl _ (by omega) o3 (by omega) (by omega) (keep_pat (o := default) hpat hpl g5) g4 ?_
      intro h2 tk2 t2 g6
      have := h h2 tk2 t2 (fun b o hb e => g6 b o hb (g5 b o hb e))
      dsimp only at this
      rw [g3, List.append_assoc]
      exact this

theorem sub_call {find : Nat → Option (Nat × Nat)} {r : Str} {tr : Tok} {s : Shared} {Q : Value → Shared → Prop} (hx : x.cps.size ≤ 2 ^ 20) (hr2 : r.cps.size ≤ 2) (hr : r.cps.contains 92 = false)
    (hfind : ∀ p, p ≤ x.cps.size → ∃ N, N ≤ 2 ^ 60 ∧ Found (Sre.M.runFor N (Sre.forSearch code x.cps 0 p x.cps.size false)) (find p))
    (hord : ∀ p a b, find p = some (a, b) → p ≤ a ∧ a < b ∧ b ≤ x.cps.size) (hpat : IsPat s.heap pat code)
    (h : ∀ h' tk t', (∀ b o, s.heap.get? b = some o → h'.get? b = some o) → Q (.str ⟨(substF find x.cps.toList r.cps.toList x.cps.size 0).toArray⟩ t') { s with heap := h', toks := tk }) :
    wpAny (model prog w) A (call (.builtin "re.Pattern.sub") [.ref pat, .str r tr, .str x t]) Q E s := by
  refine sub_enter hpat hr ?_
  rintro h₁ rfl
  have k1 : ∀ b o, s.heap.get? b = some o → (s.heap.push (W.listOf #[] 0)).get? b = some o := fun b o e => Heap.get?_push_of_some _ e
  refine sub_loop hx hr2 hfind hord x.cps.size 0 [] 0 0 s.heap.objs.size _ (by omega) (Nat.zero_le _) (Nat.zero_le _) (Nat.zero_le _) (hpat.keeps k1) (Heap.get?_push_size _ rfl) ?_
  intro h' tk t' k2
  exact h h' tk t' (fun b o e => k2 b o (Nat.ne_of_lt (Heap.lt_size e)) (k1 b o e))
end
end Mine
end

/- part Law3 -/
section
open PySem
set_option maxRecDepth 100000
namespace Mine
theorem drop_at (a : Array Nat) {p : Nat} (h : p < a.size) : a.toList.drop p = a.getD p 0 :: a.toList.drop (p + 1) := by
  rw [List.drop_eq_getElem_cons (by rw [Array.length_toList]; exact h)]
  congr 1
  simp [Array.getD, h]
theorem next2_ord (a : Array Nat) : ∀ (k p q e : Nat), a.size - p ≤ k → next2 a p = some (q, e) → p ≤ q ∧ q < e ∧ e ≤ a.size := by
  intro k
  induction k with
  | zero =>
    intro p q e hk h
    rw [next2, dif_neg (by omega)] at h
    cases h
  | succ k ih =>
    intro p q e hk h
    rw [next2] at h
    by_cases hp : p < a.size
    · rw [dif_pos hp] at h
      by_cases h1 : a.getD p 0 = 10
      · rw [if_pos h1] at h
        injection h with h; injection h with e1 e2; omega
      · rw [if_neg h1] at h
        by_cases h2 : a.getD p 0 = 13
        · rw [if_pos h2] at h
          by_cases h3 : p + 1 < a.size ∧ a.getD (p + 1) 0 = 10
          · rw [if_pos h3] at h
            injection h with h; injection h with e1 e2; omega
          · rw [if_neg h3] at h
            injection h with h; injection h with e1 e2; omega
        · rw [if_neg h2] at h
          have := ih (p + 1) q e (by omega) h
          omega
    · rw [dif_neg hp] at h; cases h
theorem next1_ord (a : Array Nat) : ∀ (k p q : Nat), a.size - p ≤ k → next1 a p = some q → p ≤ q ∧ q < a.size := by
  intro k
  induction k with
  | zero =>
    intro p q hk h
    rw [next1, dif_neg (by omega)] at h
    cases h
  | succ k ih =>
    intro p q hk h
    rw [next1] at h
    by_cases hp : p < a.size
    · rw [dif_pos hp] at h
      split at h
      · cases h; omega
      · have := ih (p + 1) q (by omega) h
        omega
    · rw [dif_neg hp] at h; cases h

theorem substF_none {find : Nat → Option (Nat × Nat)} {l r : List Nat} {k p : Nat} (h : find p = none) : substF find l r k p = l.drop p := by
  cases k with
  | zero => rfl
  | succ k => rw [substF, h]
theorem substF_skip {find : Nat → Option (Nat × Nat)} {a : Array Nat} {r : List Nat} {k p : Nat} (hp : p < a.size) (h : find p = find (p + 1)) (ho : ∀ q e, find (p + 1) = some (q, e) → p + 1 ≤ q) :
    substF find a.toList r (k + 1) p = a.getD p 0 :: substF find a.toList r (k + 1) (p + 1) := by
  rw [substF, substF, h]
  cases hf : find (p + 1) with
  | none => exact drop_at a hp
  | some qe =>
    obtain ⟨q, e⟩ := qe
    dsimp only
    have hq := ho q e hf
    rw [List.drop_take, List.drop_take, drop_at a hp, show q - p = (q - (p + 1)) + 1 by omega, List.take_succ_cons]
    rfl
theorem substF_here {find : Nat → Option (Nat × Nat)} {l r : List Nat} {k p e : Nat} (h : find p = some (p, e)) : substF find l r (k + 1) p = r ++ substF find l r k e := by
  rw [substF, h]
  dsimp only
  rw [List.drop_take, Nat.sub_self, List.take_zero]
  rfl

theorem sub2 (a : Array Nat) : ∀ (d k p : Nat), a.size - p ≤ d → a.size - p ≤ k → p ≤ a.size → substF (next2 a) a.toList [13, 10] k p = ends (a.toList.drop p) := by
  intro d
  induction d using Nat.strongRecOn with
  | ind d ih =>
    intro k p hd hk hp
    by_cases hlt : p < a.size
    · obtain ⟨k', rfl⟩ : ∃ k', k = k' + 1 := ⟨k - 1, by omega⟩
      by_cases h10 : a.getD p 0 = 10
      · have hf : next2 a p = some (p, p + 1) := by rw [next2, dif_pos hlt, if_pos h10]
        rw [substF_here hf, ih (a.size - (p + 1)) (by omega) k' (p + 1) (Nat.le_refl _) (by omega) (by omega), drop_at a hlt, h10, ends_lf]
        rfl
      · by_cases h13 : a.getD p 0 = 13
        · by_cases h3 : p + 1 < a.size ∧ a.getD (p + 1) 0 = 10
          · have hf : next2 a p = some (p, p + 2) := by rw [next2, dif_pos hlt, if_neg h10, if_pos h13, if_pos h3]
            rw [substF_here hf, ih (a.size - (p + 2)) (by omega) k' (p + 2) (Nat.le_refl _) (by omega) (by omega), drop_at a hlt, drop_at a h3.1, h13, h3.2, ends_crlf]
            rfl
          · have hf : next2 a p = some (p, p + 1) := by rw [next2, dif_pos hlt, if_neg h10, if_pos h13, if_neg h3]
            have hh : (a.toList.drop (p + 1)).head? ≠ some 10 := by
              intro q
              by_cases hl2 : p + 1 < a.size
              · rw [drop_at a hl2] at q
                exact h3 ⟨hl2, by simpa using q⟩
              · rw [List.drop_of_length_le (by rw [Array.length_toList]; omega)] at q
                simp at q
            rw [substF_here hf, ih (a.size - (p + 1)) (by omega) k' (p + 1) (Nat.le_refl _) (by omega) (by omega), drop_at a hlt, h13, ends_cr hh]
            rfl
        · have hf : next2 a p = next2 a (p + 1) := by rw [next2, dif_pos hlt, if_neg h10, if_neg h13]
          rw [substF_skip hlt hf (fun q e h => (next2_ord a _ _ _ _ (Nat.le_refl _) h).1), ih (a.size - (p + 1)) (by omega) (k' + 1) (p + 1) (Nat.le_refl _) (by omega) (by omega)]
          conv => rhs; rw [drop_at a hlt, ends_other h13 h10]
    · have e : p = a.size := by omega
      subst e
      rw [substF_none (by rw [next2, dif_neg (Nat.lt_irrefl _)]), List.drop_of_length_le (by rw [Array.length_toList]; omega)]
      rfl

noncomputable def find1 (a : Array Nat) (p : Nat) : Option (Nat × Nat) := (next1 a p).map fun q => (q, q + 1)
theorem find1_ord (a : Array Nat) (p q e : Nat) (h : find1 a p = some (q, e)) : p ≤ q ∧ q < e ∧ e ≤ a.size := by
  unfold find1 at h
  cases hn : next1 a p with
  | none => rw [hn] at h; cases h
  | some z =>
    rw [hn] at h
    have := next1_ord a _ _ _ (Nat.le_refl _) hn
    cases h
    omega
theorem sub1 (a : Array Nat) : ∀ (d k p : Nat), a.size - p ≤ d → a.size - p ≤ k → p ≤ a.size → substF (find1 a) a.toList [46, 46] k p = dots (p == 0 || a.getD (p - 1) 0 == 10) (a.toList.drop p) := by
  intro d
  induction d using Nat.strongRecOn with
  | ind d ih =>
    intro k p hd hk hp
    by_cases hlt : p < a.size
    · obtain ⟨k', rfl⟩ : ∃ k', k = k' + 1 := ⟨k - 1, by omega⟩
      have hfl : (p + 1 == 0 || a.getD (p + 1 - 1) 0 == 10) = (a.getD p 0 == 10) := rfl
      by_cases hc : c1 a p = true
      · have hf : find1 a p = some (p, p + 1) := by unfold find1; rw [next1, dif_pos hlt, if_pos hc]; rfl
        obtain ⟨c2, c3⟩ := Bool.and_eq_true_iff.mp hc
        have c4 : a.getD p 0 = 46 := beq_iff_eq.mp c3
        rw [substF_here hf, ih (a.size - (p + 1)) (by omega) k' (p + 1) (Nat.le_refl _) (by omega) (by omega), hfl, drop_at a hlt, c2, c4, dots_dot]
        rfl
      · have hf : find1 a p = find1 a (p + 1) := by
          unfold find1
          conv => lhs; rw [next1, dif_pos hlt, if_neg hc]
        rw [substF_skip hlt hf (fun q e h => (find1_ord a _ _ _ h).1), ih (a.size - (p + 1)) (by omega) (k' + 1) (p + 1) (Nat.le_refl _) (by omega) (by omega), hfl]
        conv => rhs; rw [drop_at a hlt]
        rw [dots_other]
        rintro ⟨q1, q2⟩
        apply hc
        unfold c1
        rw [q1, q2]
        rfl
    · have e : p = a.size := by omega
      subst e
      rw [substF_none (by unfold find1; rw [next1, dif_neg (Nat.lt_irrefl _)]; rfl), List.drop_of_length_le (by rw [Array.length_toList]; omega)]
      simp [dots]
theorem ends_len (l : List Nat) : (ends l).length ≤ 2 * l.length := by
  refine ends_cases (P := fun l => (ends l).length ≤ 2 * l.length) ?_ ?_ ?_ ?_ ?_ l
  · simp [ends]
  · intro r ih; rw [ends_crlf]; simp only [List.length_cons]; omega
  · intro r ih; rw [ends_lf]; simp only [List.length_cons]; omega
  · intro r h ih; rw [ends_cr h]; simp only [List.length_cons]; omega
  · intro c r h1 h2 ih; rw [ends_other h1 h2]; simp only [List.length_cons]; omega
theorem dots_len : ∀ (l : List Nat) (b : Bool), (dots b l).length ≤ 2 * l.length
  | [], _ => by simp [dots]
  | c :: r, b => by
    unfold dots
    have h1 := dots_len r false
    have h2 := dots_len r (c == 10)
    split <;> simp only [List.length_cons] <;> omega
end Mine
end

/- part Law4 -/
section
open PySem PySem.StrLaws PySem.Builtin PySem.Builtin.Str
set_option maxRecDepth 100000
namespace Mine
/-- the places of y, from the left, none over another -/
noncomputable def occsL (y : List Nat) : Nat → Nat → List Nat → List Nat
  | _, _, [] => []
  | k + 1, i, _ :: r => occsL y k (i + 1) r
  | 0, i, c :: r => if y.isPrefixOf (c :: r) = true then i :: occsL y (y.length - 1) (i + 1) r else occsL y 0 (i + 1) r

theorem subAt_prefix {x y : Str} {i : Nat} (hy : 0 < y.length) : (i + y.length ≤ x.length ∧ subAt x y i = true) ↔ y.cps.toList.isPrefixOf (x.cps.toList.drop i) = true := by
  rw [subAt_eq, List.isPrefixOf_iff_prefix, List.prefix_iff_eq_take, beq_iff_eq]
  have e1 : y.length = y.cps.toList.length := by rw [Array.length_toList]; rfl
  have e2 : x.length = x.cps.toList.length := by rw [Array.length_toList]; rfl
  constructor
  · rintro ⟨_, h⟩
    rw [← e1]; exact h.symm
  · intro h
    rw [← e1] at h
    refine ⟨?_, h.symm⟩
    have h2 := congrArg List.length h
    rw [← e1, List.length_take, List.length_drop, ← e2] at h2
    omega

theorem occ_run (x y : Str) (hy : 0 < y.length) : ∀ (d i : Nat) (found : Array Nat) (free : Nat), x.length - i = d → i ≤ x.length → found.size ≤ i → free ≤ x.length →
    (forIn (List.range' i (x.length + 1 - i)) (found, free) (occBody x y x.length (x.length + 1))).run.fst.toList = found.toList ++ occsL y.cps.toList (free - i) i (x.cps.toList.drop i) := by
  intro d
  have ey : y.length = y.cps.toList.length := by rw [Array.length_toList]; rfl
  induction d with
  | zero =>
    intro i found free hd hi hf hfr
    have e : i = x.length := by omega
    subst e
    rw [show x.length + 1 - x.length = 1 by omega, List.range'_one, List.forIn_cons]
    unfold occBody
    rw [if_neg (by rintro ⟨⟨_, h⟩, _⟩; omega)]
    have : x.cps.toList.drop x.length = [] := List.drop_of_length_le (by rw [Array.length_toList]; exact Nat.le_refl _)
    rw [this]
    cases h : free - x.length <;> simp [occsL]
  | succ d ih =>
    intro i found free hd hi hf hfr
    have hlt : i < x.cps.size := by show i < x.length; omega
    rw [show x.length + 1 - i = (x.length + 1 - (i + 1)) + 1 by omega, List.range'_succ, List.forIn_cons]
    have ed : x.cps.toList.drop i = x.cps.toList[i]'(by rw [Array.length_toList]; exact hlt) :: x.cps.toList.drop (i + 1) := List.drop_eq_getElem_cons _
    by_cases hfree : free ≤ i
    · rw [show free - i = 0 by omega]
      by_cases hp : y.cps.toList.isPrefixOf (x.cps.toList.drop i) = true
      · have hs := (subAt_prefix hy).mpr hp
        have e1 : occBody x y x.length (x.length + 1) i (found, free) = pure (ForInStep.yield (found.push i, i + y.length)) := by
          unfold occBody
          rw [if_pos ⟨⟨⟨by show found.size < _; omega, hfree⟩, hs.1⟩, hs.2⟩]
        rw [e1]
        show (forIn (List.range' (i + 1) (x.length + 1 - (i + 1))) (found.push i, i + y.length) (occBody x y x.length (x.length + 1))).run.fst.toList = _
        rw [ih (i + 1) (found.push i) (i + y.length) (by omega) (by omega) (by rw [Array.size_push]; omega) hs.1]
        rw [ed] at hp ⊢
        rw [occsL, if_pos hp, show i + y.length - (i + 1) = y.cps.toList.length - 1 by omega]
        simp
      · have e1 : occBody x y x.length (x.length + 1) i (found, free) = pure (ForInStep.yield (found, free)) := by
          unfold occBody
          rw [if_neg]
          rintro ⟨⟨_, h1⟩, h2⟩
          exact hp ((subAt_prefix hy).mp ⟨h1, h2⟩)
        rw [e1]
        show (forIn (List.range' (i + 1) (x.length + 1 - (i + 1))) (found, free) (occBody x y x.length (x.length + 1))).run.fst.toList = _
        rw [ih (i + 1) found free (by omega) (by omega) (by omega) hfr]
        rw [ed] at hp ⊢
        rw [occsL, if_neg hp, show free - (i + 1) = 0 by omega]
    · have e1 : occBody x y x.length (x.length + 1) i (found, free) = pure (ForInStep.yield (found, free)) := by
        unfold occBody
        rw [if_neg]
        rintro ⟨⟨⟨_, h0⟩, h1⟩, h2⟩
        exact hfree h0
      rw [e1]
      show (forIn (List.range' (i + 1) (x.length + 1 - (i + 1))) (found, free) (occBody x y x.length (x.length + 1))).run.fst.toList = _
      rw [ih (i + 1) found free (by omega) (by omega) (by omega) hfr, ed, show free - i = (free - (i + 1)) + 1 by omega, occsL]
theorem occ_L (x y : Str) (hy : 0 < y.length) : occurrences x y 0 x.length (x.length + 1) = occsL y.cps.toList 0 0 x.cps.toList := by
  rw [occ_eq, Nat.sub_zero]
  have := occ_run x y hy x.length 0 #[] 0 (by omega) (Nat.zero_le _) (Nat.zero_le _) (Nat.zero_le _)
  rw [Nat.sub_zero] at this
  rw [this]
  simp

theorem parts_L (x : Str) (y : List Nat) (hy : 0 < y.length) : ∀ (l : List Nat) (skip i a : Nat), l = x.cps.toList.drop i → (a ≤ i ∧ skip = 0 ∨ a = i + skip) → i ≤ x.length →
    (partsFrom x y.length a (occsL y skip i l)).map (fun p => p.cps.toList) = splitL y skip ((x.cps.toList.drop a).take (i - a)) l := by
  intro l
  induction l with
  | nil =>
    intro skip i a hl ha hi
    have hil : x.length ≤ i := by
      have h := congrArg List.length hl
      rw [List.length_drop, Array.length_toList] at h
      have : x.length = x.cps.size := rfl
      simp at h
      omega
    have e1 : occsL y skip i [] = [] := by cases skip <;> rfl
    rw [e1]
    have e2 : splitL y skip ((x.cps.toList.drop a).take (i - a)) [] = [(x.cps.toList.drop a).take (i - a)] := by cases skip <;> rfl
    rw [e2]
    show [(strSub x a x.length).cps.toList] = _
    rw [strSub_toList, show i = x.length by omega]
  | cons c r ih =>
    intro skip i a hl ha hi
    have hr : r = x.cps.toList.drop (i + 1) := by
      rw [← List.tail_drop, ← hl]; rfl
    have hlt : i < x.length := by
      have h := congrArg List.length hl
      rw [List.length_drop, Array.length_toList] at h
      have : x.length = x.cps.size := rfl
      simp at h
      omega
    cases skip with
    | succ k =>
      show (partsFrom x y.length a (occsL y k (i + 1) r)).map _ = splitL y k _ r
      have hak : a = (i + 1) + k := by rcases ha with h | h <;> omega
      rw [ih k (i + 1) a hr (.inr hak) (by omega)]
      rw [show i - a = 0 by omega, show i + 1 - a = 0 by omega]
    | zero =>
      have hai : a ≤ i := by rcases ha with h | h <;> omega
      by_cases hp : y.isPrefixOf (c :: r) = true
      · rw [occsL, if_pos hp, splitL, if_pos hp]
        show (strSub x a i).cps.toList :: (partsFrom x y.length (i + y.length) (occsL y (y.length - 1) (i + 1) r)).map _ = _
        rw [ih (y.length - 1) (i + 1) (i + y.length) hr (.inr (by omega)) (by omega), strSub_toList, show i + 1 - (i + y.length) = 0 by omega]
        rfl
      · rw [occsL, if_neg hp, splitL, if_neg hp, ih 0 (i + 1) a hr (.inl ⟨by omega, rfl⟩) (by omega)]
        congr 1
        rw [show i + 1 - a = (i - a) + 1 by omega, List.take_add_one]
        congr 1
        rw [List.getElem?_drop, show a + (i - a) = i by omega]
        have hl' : x.cps.toList[i]? = some c := by
          have h := congrArg (fun l => l[0]?) hl
          simp only [List.getElem?_cons_zero, List.getElem?_drop, Nat.add_zero] at h
          exact h.symm
        rw [hl']; rfl
theorem parts_all (x y : Str) (hy : 0 < y.length) : (partsBetween x (occurrences x y 0 x.length (x.length + 1)) y.length).map (fun p => p.cps.toList) = splitL y.cps.toList 0 [] x.cps.toList := by
  have ey : y.length = y.cps.toList.length := by rw [Array.length_toList]; rfl
  rw [partsBetween_eq, occ_L x y hy]
  have := parts_L x y.cps.toList (by omega) x.cps.toList 0 0 0 rfl (.inl ⟨Nat.le_refl _, rfl⟩) (Nat.zero_le _)
  rw [← ey] at this
  rw [this]
  rfl
theorem splitL_none {y : List Nat} : ∀ {l : List Nat} {i : Nat} {cur : List Nat}, occsL y 0 i l = [] → splitL y 0 cur l = [cur ++ l]
  | [], _, cur, _ => by simp [splitL]
  | c :: r, i, cur, h => by
    rw [occsL] at h
    by_cases hp : y.isPrefixOf (c :: r) = true
    · rw [if_pos hp] at h; cases h
    · rw [if_neg hp] at h
      rw [splitL, if_neg hp, splitL_none h]
      simp
theorem join_toList (z : Str) : ∀ parts : List Str, (Str.join z parts).cps.toList = joinL z.cps.toList (parts.map fun p => p.cps.toList)
  | [] => rfl
  | [p] => rfl
  | p :: q :: r => by
    show (p ++ z ++ Str.join z (q :: r)).cps.toList = p.cps.toList ++ z.cps.toList ++ joinL z.cps.toList ((q :: r).map fun p => p.cps.toList)
    rw [← join_toList z (q :: r)]
    simp [Str.cps_append]
theorem replace_L (x y z : Str) (hy : 0 < y.length) : (Txt.replace x y z).cps.toList = replL y.cps.toList z.cps.toList 0 x.cps.toList := by
  have e0 := join_splitL y.cps.toList z.cps.toList 0 [] x.cps.toList
  rw [List.nil_append] at e0
  rw [← e0]
  unfold Txt.replace
  have hy0 : (y.length == 0) = false := by simp; omega
  rw [hy0, Bool.false_and, Bool.or_false]
  by_cases he : (occurrences x y 0 x.length (x.length + 1)).isEmpty = true
  · rw [if_pos he]
    rw [occ_L x y hy] at he
    rw [splitL_none (List.isEmpty_iff.mp he)]
    rfl
  · rw [if_neg he, glued_eq_join, join_toList, parts_all x y hy]
theorem split_L (x y : Str) (hy : 0 < y.length) (hk : Builtin.Str.strKind y = 1) : (Txt.split x y).map (fun p => p.cps.toList) = splitL y.cps.toList 0 [] x.cps.toList := by
  have hk1 : ¬ Builtin.Str.strKind x < Builtin.Str.strKind y := by
    rw [hk]; unfold Builtin.Str.strKind; split
    · omega
    · split <;> omega
  unfold Txt.split
  have hnone : (occurrences x y 0 x.length (x.length + 1)).isEmpty = true → [x].map (fun p => p.cps.toList) = splitL y.cps.toList 0 [] x.cps.toList := by
    intro he
    rw [occ_L x y hy] at he
    rw [splitL_none (List.isEmpty_iff.mp he)]
    rfl
  by_cases hl : x.length < y.length
  · rw [if_pos (by simp [hl])]
    apply hnone
    obtain ⟨f, hc⟩ := occ_chain x y (x.length + 1)
    cases ho : occurrences x y 0 x.length (x.length + 1) with
    | nil => rfl
    | cons i r =>
      rw [ho] at hc
      have := hc.2.1.1
      omega
  · rw [if_neg (by simp [hl, hk1])]
    by_cases he : (occurrences x y 0 x.length (x.length + 1)).isEmpty = true
    · rw [if_pos he]; exact hnone he
    · rw [if_neg he]; exact parts_all x y hy
end Mine
end

/- part LE -/
section
open PySem PySem.W PyProof.Rows
set_option Elab.async false
set_option maxRecDepth 100000
namespace Mine
local macro_rules | `(tactic| walk_at "goLE") => `(tactic| repeat ((fail_if_success (with_reducible show wpAny _ _ (exec (Stmt.While _ _ _ _) _) _ _ _)); (fail_if_success (with_reducible show wpAny _ _ (exec (Stmt.For _ _ _ _ _) _) _ _ _)); (fail_if_success (with_reducible show wpAny _ _ (call (Value.ref _) _ _) _ _ _)); (fail_if_success (with_reducible show ite _ _ _)); (first | walk1 | (dsimp only; walk1)); (try dsimp only)))
section
variable {w : World} {A A₀ : Around} {base h₀ : Heap} {outer : List Env} {env : Env} {L : Addr} {m mg mb : Str → Option Value} {mean : ExcName → Option Value} {s : Shared} {news : List (Addr × Obj)} {Q : Value → Shared → Prop} {E : Value → Shared → Prop}
theorem repl_call {x y z : Str} {t u v : Tok} {Q : Value → Shared → Prop} {prog : Program} {A : Around} (hu : u ≠ 0) (hv : v ≠ 0) (huv : u ≠ v) (hyz : (y == z) = false) (hb : x.length + (x.length + 1) * z.length ≤ 16777216)
    (hq : ∀ t' k, s.toks ≤ k → Q (.str (Txt.replace x y z) t') { s with toks := k }) : wpAny (model prog w) A (call (.builtin "str.replace") [.str x t, .str y u, .str z v]) Q E s := by
  have hl : Builtin.Str.tooLong (x.length + (Builtin.Str.occurrences x y 0 x.length (x.length + 1)).length * z.length) = false := by
    have h1 := StrLaws.occ_length_le x y 0 x.length (x.length + 1)
    have h2 := Nat.mul_le_mul_right z.length h1
    unfold Builtin.Str.tooLong sizeLine
    exact decide_eq_false (by omega)
  refine call_gives PySem.F.slot_str_replace (typeIs_str _ _ _) PySem.F.entry_str_replace (PySem.F.args_str_replace_3 _ _ _)
    (gives_str_replace x y z t u v fun _ => ⟨by simp [hu, hv], by simp [huv], hyz, hl⟩) ?_
  unfold Txt.replace at hq
  by_cases hc : ((Builtin.Str.occurrences x y 0 x.length (x.length + 1)).isEmpty || (y.length == 0 && z.length == 0)) = true
  · rw [if_pos hc] at hq ⊢
    exact hq t s.toks (Nat.le_refl _)
  · rw [if_neg hc] at hq ⊢
    exact ⟨fits_replaced y hb, hq _ _ (Nat.le_succ _)⟩
set_option maxHeartbeats 8000000 in
theorem le_call {kk : Nat} (C : Cx kk w A A₀ base h₀ outer env L mean mg mb) (F : Fr h₀ L s.heap m) (N : News h₀ L s.heap news) {x : Str} {t : Tok} (hx : x.cps.size ≤ 2 ^ 19)
    (h : ∀ h' tk t', Fr h₀ L h' m → News h₀ L h' news → Q (.str ⟨(ends x.cps.toList).toArray⟩ t') { s with heap := h', toks := tk }) :
    wpAny (model PG w) A (call (.ref 97) [.str x t]) Q E s := by
  have C₀ := C
  obtain ⟨B, X, T, hA, hf, hke, hd, hu, hh⟩ := C
  refine wpAny_call ?_
  refine' code_def (binds := [(Str.ofString "text", .str x t)]) B F X N T hA hf hke ?k6 ?k7 ?k8 ?k9 ?kB ?_ ?c2 ?c3 ?c4 ?c5
  case k6 => k_is
  case k7 => k_is
  case k8 => simp only [recursionLimit]; omega
  case k9 => exact BindsTo.of_eq rfl
  case c5 => decide
  case kB => exact locs rfl
  case c2 => exact rfl
  case c3 => exact rfl
  case c4 => exact rfl
  intro g' L' h' FG' F' N' B' X' T'
  dsimp only
  clear X T B F N
  refine wpAny_mono (E := fun _ _ => False) ?_ (fun _ _ x => x) (fun _ _ x => False.elim x)
  k_fold
  w_on
  refine wpAny_execs_cons ?_
  walk_at "goLE"
  refine repl_call (z := Str.ofString "\n") (by show @Ne Nat _ _; simp only [List.length_cons, List.length_nil]; omega) (by show @Ne Nat _ _; simp only [List.length_cons, List.length_nil]; omega) (by show @Ne Nat _ _; simp only [List.length_cons, List.length_nil]; omega) (by decide +kernel) (by show x.cps.size + (x.cps.size + 1) * 1 ≤ _; omega) ?_
  intro t₁ k₁ hk₁
  simp only [List.length_cons, List.length_nil] at hk₁
  have e1 : (Txt.replace x (Str.ofString "\r\n") (Str.ofString "\n")).cps.toList = replL [13, 10] [10] 0 x.cps.toList := replace_L x _ _ (by decide)
  have l1 : (Txt.replace x (Str.ofString "\r\n") (Str.ofString "\n")).length ≤ 2 ^ 19 := by
    have h1 := replL_len (y := [13, 10]) (z := [10]) (Nat.le_refl _) 0 x.cps.toList
    rw [← e1, Array.length_toList, Array.length_toList] at h1
    exact Nat.le_trans h1 hx
  generalize Txt.replace x (Str.ofString "\r\n") (Str.ofString "\n") = x₁ at e1 l1
  walk_at "goLE"
  refine repl_call (z := Str.ofString "\n") (by show @Ne Nat _ _; omega) (by show @Ne Nat _ _; omega) (by show @Ne Nat _ _; omega) (by decide +kernel) (by show x₁.length + (x₁.length + 1) * 1 ≤ _; omega) ?_
  intro t₂ k₂ hk₂
  dsimp only at hk₂
  have e2 : (Txt.replace x₁ (Str.ofString "\r") (Str.ofString "\n")).cps.toList = replL [13] [10] 0 x₁.cps.toList := replace_L x₁ _ _ (by decide)
  have l2 : (Txt.replace x₁ (Str.ofString "\r") (Str.ofString "\n")).length ≤ 2 ^ 19 := by
    have h1 := replL_len (y := [13]) (z := [10]) (Nat.le_refl _) 0 x₁.cps.toList
    rw [← e2, Array.length_toList, Array.length_toList] at h1
    exact Nat.le_trans h1 l1
  generalize Txt.replace x₁ (Str.ofString "\r") (Str.ofString "\n") = x₂ at e2 l2
  walk_at "goLE"
  refine repl_call (z := Str.ofString "\r\n") (by show @Ne Nat _ _; omega) (by show @Ne Nat _ _; omega) (by show @Ne Nat _ _; omega) (by decide +kernel) (by show x₂.length + (x₂.length + 1) * 2 ≤ _; omega) ?_
  intro t₃ k₃ hk₃
  have e3 : (Txt.replace x₂ (Str.ofString "\n") (Str.ofString "\r\n")) = ⟨(ends x.cps.toList).toArray⟩ := by
    apply Str.ext'
    apply Array.toList_inj.mp
    have : (Txt.replace x₂ (Str.ofString "\n") (Str.ofString "\r\n")).cps.toList = replL [10] [13, 10] 0 x₂.cps.toList := replace_L x₂ _ _ (by decide)
    rw [this, e2, e1, ends_repl]
  rw [e3]
  walk_at "goLE"
  exact leaveK_ F' N' (fun F₆ N₆ => h _ _ _ F₆ N₆)
end
end Mine
end

/- part Slice -/
section
open PySem PySem.StrLaws PySem.Builtin PySem.Builtin.Str
set_option maxRecDepth 100000
namespace Mine
theorem str_nil {x : Str} (h : x.cps.toList.length = 0) : x = ⟨#[]⟩ := by
  obtain ⟨⟨l⟩⟩ := x
  have : l = [] := List.length_eq_zero_iff.mp h
  subst this; rfl
theorem str_one {x : Str} (h : x.cps.toList.length = 1) : ∃ c, x = ⟨#[c]⟩ := by
  obtain ⟨⟨l⟩⟩ := x
  obtain ⟨c, rfl⟩ := List.length_eq_one_iff.mp h
  exact ⟨c, rfl⟩
theorem slice_to1 (x : Str) : (Txt.slice x none (some 1)).cps.toList = x.cps.toList.take 1 := by
  by_cases h : x.cps.toList.length = 0
  · rw [str_nil h]; rfl
  · have e : Txt.slice x none (some 1) = sliceText x none (some 1) := rfl
    rw [e, sliceText_to ⟨by decide, by omega⟩]
    rfl
theorem slice_last (x : Str) : (Txt.slice x (some (-1)) none).cps.toList = x.cps.toList.drop (x.cps.toList.length - 1) := by
  by_cases h : x.cps.toList.length = 0
  · rw [str_nil h]; rfl
  · have e : Txt.slice x (some (-1)) none = sliceText x (some (-1)) none := rfl
    have hl : (x.length : Int) = (x.cps.toList.length : Int) := by rw [Array.length_toList]; rfl
    rw [e, sliceText_from_neg (by decide) (by omega), hl]
    show (x.cps.toList.drop _).take _ = _
    rw [show (-1 + (x.cps.toList.length : Int)).toNat = x.cps.toList.length - 1 by omega, List.take_of_length_le]
    rw [List.length_drop]; omega
theorem slice_from (x : Str) (k : Nat) (hk : k ≤ x.cps.toList.length) : (Txt.slice x (some (k : Int)) none).cps.toList = x.cps.toList.drop k := by
  have e : Txt.slice x (some (k : Int)) none = sliceText x (some (k : Int)) none := rfl
  rw [e, sliceText_from ⟨by omega, by omega⟩]
  show (x.cps.toList.drop _).take _ = _
  rw [Int.toNat_natCast, List.take_of_length_le]
  rw [List.length_drop]; omega
theorem slice_from1 (x : Str) : (Txt.slice x (some 1) none).cps.toList = x.cps.toList.drop 1 := by
  by_cases h : x.cps.toList.length = 0
  · rw [str_nil h]; rfl
  · exact slice_from x 1 (by omega)
theorem slice_from2 (x : Str) : (Txt.slice x (some 2) none).cps.toList = x.cps.toList.drop 2 := by
  by_cases h : x.cps.toList.length = 0
  · rw [str_nil h]; rfl
  · by_cases h1 : x.cps.toList.length = 1
    · obtain ⟨c, rfl⟩ := str_one h1; rfl
    · exact slice_from x 2 (by omega)
theorem beq_str (x y : Str) : (x == y) = (x.cps.toList == y.cps.toList) := by
  by_cases h : x = y
  · subst h; simp
  · have h2 : x.cps.toList ≠ y.cps.toList := fun e => h (Str.ext' (Array.toList_inj.mp e))
    rw [beq_eq_false_iff_ne.mpr h, beq_eq_false_iff_ne.mpr h2]
theorem take1_beq (l : List Nat) (c : Nat) : (l.take 1 == [c]) = (l.head? == some c) := by
  cases l with
  | nil => rfl
  | cons a r => simp
theorem last_beq (l : List Nat) (c : Nat) : (l.drop (l.length - 1) == [c]) = (l.getLast? == some c) := by
  cases h : l.getLast? with
  | none => rw [List.getLast?_eq_none_iff.mp h]; rfl
  | some d =>
    have hne : l ≠ [] := by rintro rfl; simp at h
    have e : l.drop (l.length - 1) = [d] := by
      rw [List.getLast?_eq_getElem?] at h
      have hl : l.length - 1 < l.length := by
        have := List.length_pos_iff.mpr hne; omega
      rw [List.drop_eq_getElem_cons hl, List.drop_of_length_le (by omega)]
      rw [List.getElem?_eq_getElem hl] at h
      rw [Option.some.inj h]
    rw [e]; simp
end Mine
end

/- part LQ -/
section
open PySem PySem.W PyProof.Rows
set_option Elab.async false
set_option maxRecDepth 100000
namespace Mine
local macro_rules | `(tactic| walk_at "goLQ") => `(tactic| repeat ((fail_if_success (with_reducible show wpAny _ _ (exec (Stmt.While _ _ _ _) _) _ _ _)); (fail_if_success (with_reducible show wpAny _ _ (exec (Stmt.For _ _ _ _ _) _) _ _ _)); (fail_if_success (with_reducible show wpAny _ _ (call (Value.ref _) _ _) _ _ _)); (fail_if_success (with_reducible show ite _ _ _)); (fail_if_success (with_reducible show wpAny _ _ (getMethod (Value.ref _) _ _) _ _ _)); (first | walk1 | (dsimp only; walk1)); (try dsimp only)))
section
variable {w : World} {A A₀ : Around} {base h₀ : Heap} {outer : List Env} {env : Env} {L : Addr} {m mg mb : Str → Option Value} {mean : ExcName → Option Value} {s : Shared} {news : List (Addr × Obj)} {Q : Value → Shared → Prop} {E : Value → Shared → Prop}
set_option maxHeartbeats 8000000 in
theorem lq_call {kk : Nat} (C : Cx (kk + 1) w A A₀ base h₀ outer env L mean mg mb) (F : Fr h₀ L s.heap m) (N : News h₀ L s.heap news) {x : Str} {t : Tok} (hx : x.cps.size ≤ 2 ^ 18)
    (h : ∀ h' tk t', Fr h₀ L h' m → News h₀ L h' news → Q (.str ⟨(quote x.cps.toList).toArray⟩ t') { s with heap := h', toks := tk }) :
    wpAny (model PG w) A (call (.ref 104) [.str x t]) Q E s := by
  have C₀ := C
  obtain ⟨B, X, T, hA, hf, hke, hd, hu, hh⟩ := C
  refine wpAny_call ?_
  refine' code_def (binds := [(Str.ofString "text", .str x t)]) B F X N T hA hf hke ?k6 ?k7 ?k8 ?k9 ?kB ?_ ?c2 ?c3 ?c4 ?c5
  case k6 => k_is
  case k7 => k_is
  case k8 => simp only [recursionLimit]; omega
  case k9 => exact BindsTo.of_eq rfl
  case c5 => decide
  case kB => exact locs rfl
  case c2 => exact rfl
  case c3 => exact rfl
  case c4 => exact rfl
  intro g' L' h' FG' F' N' B' X' T'
  dsimp only
  clear X T B F N
  refine wpAny_mono (E := fun _ _ => False) ?_ (fun _ _ x => x) (fun _ _ x => False.elim x)
  k_fold
  w_on
  walk_at "goLQ"
  refine For_invV g' rfl rfl ?_ (fun _ => rfl) (fun _ _ x => False.elim x)
  walk_at "goLQ"
  rename Fr _ _ _ _ => F₁
  rename News _ _ _ _ => N₁
  rename_i R _ lR _
  refine le_call (C₀.inner B' X' T') F₁ N₁ (Nat.le_trans hx (by decide)) ?_
  intro h₁ tk₁ t₁ F₂ N₂
  walk_at "goLQ"
  refine splitN1 F₂ N₂ (by decide) ?_ (by show (ends x.cps.toList).toArray.size + 2 ≤ _; have := ends_len x.cps.toList; have e := Array.length_toList (xs := x.cps); rw [List.size_toArray, sizeLine_eq]; omega)
  intro rw₀ h₃ k₃ er F₃ N₃
  walk_at "goLQ"
  have hrow : rw₀.map (fun p => p.1.cps.toList) = splitL [13, 10] 0 [] (ends x.cps.toList) := by
    have := split_L (⟨(ends x.cps.toList).toArray⟩ : Str) (Str.ofString "\r\n") (by decide) (by decide +kernel)
    rw [← er, List.map_map] at this
    exact this
  have hlen : rw₀.length ≤ 2 ^ 19 + 1 := by
    have h1 := congrArg List.length hrow
    rw [List.length_map] at h1
    have h2 := splitL_len [13, 10] 0 [] (ends x.cps.toList)
    have h3 := ends_len x.cps.toList
    have e := Array.length_toList (xs := x.cps)
    omega
  have hRD : R ≠ h₁.objs.size := Nat.ne_of_lt (Heap.lt_size (N₂ _ (.head _)).1)
  refine wpAny_pyIter_list (PySem.IsL.isList (n := 0) (N₃ _ (.head _)).1) ?_
  refine loopL (A := A.deeper _) (n := 0) hh F₃ N₃ (.head _) (fun i m₁ news₁ => ∃ (out : List (Str × Tok)) (nn : Nat), AllSay m₁ [(Str.ofString "rows", .ref R)] ∧ news₁ = setN R (W.listOf (strValues out).toArray nn) ((R, W.listOf #[] 0) :: news) ∧
      out.map (fun p => p.1.cps.toList) = (rw₀.take i).map (fun p => dotRow p.1.cps.toList)) (new1 := (R, W.listOf #[] 0) :: news) (fun p hp => .tail _ hp) ⟨[], 0, ⟨rfl, trivial⟩, ?_, rfl⟩ ?_ ?_
  · exact (setN_id N₂ (.head _)).symm
  · rintro i v m₁ news₁ h₄ tk own hv ⟨out, nn, e1, rfl, hout⟩ hnI hown F₄ N₄
    have hi : i < rw₀.length := by
      have := List.getElem?_eq_some_iff.mp hv
      obtain ⟨q, _⟩ := this
      unfold strValues at q
      simpa using q
    have ev : v = .str rw₀[i].1 rw₀[i].2 := by
      unfold strValues at hv
      rw [List.getElem?_map, List.getElem?_eq_getElem hi] at hv
      exact (Option.some.inj hv).symm
    subst ev
    have F₅ := fr_says (l := [(Str.ofString "row", .str rw₀[i].1 rw₀[i].2), (Str.ofString "rows", .ref R)]) F₄ ⟨rfl, e1.1, trivial⟩
    clear F₄
    have hlr : rw₀[i].1.length ≤ 1048576 := by
      have hm1 : rw₀[i].1.cps.toList ∈ splitL [13, 10] 0 [] (ends x.cps.toList) := by
        rw [← hrow]; exact List.mem_map.mpr ⟨rw₀[i], List.getElem_mem hi, rfl⟩
      have h2 := splitL_mem [13, 10] 0 [] (ends x.cps.toList) _ hm1
      have h3 := ends_len x.cps.toList
      have e := Array.length_toList (xs := x.cps)
      have e2 := Array.length_toList (xs := rw₀[i].1.cps)
      show rw₀[i].1.cps.size ≤ _
      rw [List.length_nil] at h2
      omega
    walk_at "goLQ"
    have hhd : (Txt.slice rw₀[i].1 none (some 1) == Str.ofString ".") = (rw₀[i].1.cps.toList.head? == some 46) := by
      rw [beq_str, slice_to1, show (Str.ofString ".").cps.toList = [46] by decide, take1_beq]
    rw [hhd]
    have hol : (strValues out).length ≤ 2 ^ 20 := by
      have h1 := congrArg List.length hout
      rw [List.length_map, List.length_map, List.length_take] at h1
      unfold strValues
      rw [List.length_map]
      omega
    refine iteB (fun hc => ?_) (fun hc => ?_)
    · have hc' : rw₀[i].1.cps.toList.head? = some 46 := beq_iff_eq.mp hc
      walk_at "goLQ"
      rename News _ _ _ _ => N₆
      refine meth_append (vs := strValues out) (n := nn) N₆ (List.mem_append_right _ (mem_setN_self (.head _))) ?_
      walk_at "goLQ"
      rename News _ _ _ _ => N₇
      rename Fr _ _ _ _ => F₇
      refine append_N F₇ N₇ (List.mem_append_right _ (mem_setN_self (.head _))) hol ?_
      intro h₈ F₈ N₈
      have hown' : ∀ p ∈ own, p.1 ≠ R := by
        intro p hp' e
        rcases hown p hp' with q | q
        · exact hnI _ (mem_setN_self (.head _)) (e.symm.trans q)
        · exact hRD (e.symm.trans q)
      rw [setN_append, setN_off hown', setN_setN, ← strValues_snoc] at N₈
      walk_at "goLQ"
      refine ⟨rfl, _, _, _, _, rfl, F₈, N₈, ?_, out ++ [(Str.ofString "." ++ rw₀[i].1, _)], _, ⟨rfl, trivial⟩, rfl, ?_⟩
      · intro p hp'
        obtain ⟨q, hq, e⟩ := setN_adr hp'
        obtain ⟨r, hr, e'⟩ := adr_setN (d := R) (o := W.listOf (strValues out).toArray nn) hq
        rw [List.mem_singleton, ← e, ← e']
        exact hnI r hr
      · rw [List.map_append, hout, List.take_add_one, List.map_append, List.getElem?_eq_getElem hi]
        show _ ++ [_] = _ ++ [_]
        congr 2
        show (Str.ofString "." ++ rw₀[i].1).cps.toList = dotRow rw₀[i].1.cps.toList
        rw [Str.cps_append, Array.toList_append]
        unfold dotRow
        rw [if_pos hc']; rfl
    · have hc' : ¬ rw₀[i].1.cps.toList.head? = some 46 := fun q => by rw [q] at hc; simp at hc
      walk_at "goLQ"
      rename News _ _ _ _ => N₆
      refine meth_append (vs := strValues out) (n := nn) N₆ (List.mem_append_right _ (mem_setN_self (.head _))) ?_
      walk_at "goLQ"
      rename News _ _ _ _ => N₇
      rename Fr _ _ _ _ => F₇
      refine append_N F₇ N₇ (List.mem_append_right _ (mem_setN_self (.head _))) hol ?_
      intro h₈ F₈ N₈
      have hown' : ∀ p ∈ own, p.1 ≠ R := by
        intro p hp' e
        rcases hown p hp' with q | q
        · exact hnI _ (mem_setN_self (.head _)) (e.symm.trans q)
        · exact hRD (e.symm.trans q)
      rw [setN_append, setN_off hown', setN_setN, ← strValues_snoc] at N₈
      walk_at "goLQ"
      refine ⟨rfl, _, _, _, _, rfl, F₈, N₈, ?_, out ++ [(rw₀[i].1, _)], _, ⟨rfl, trivial⟩, rfl, ?_⟩
      · intro p hp'
        obtain ⟨q, hq, e⟩ := setN_adr hp'
        obtain ⟨r, hr, e'⟩ := adr_setN (d := R) (o := W.listOf (strValues out).toArray nn) hq
        rw [List.mem_singleton, ← e, ← e']
        exact hnI r hr
      · rw [List.map_append, hout, List.take_add_one, List.map_append, List.getElem?_eq_getElem hi]
        show _ ++ [_] = _ ++ [_]
        congr 2
        show rw₀[i].1.cps.toList = dotRow rw₀[i].1.cps.toList
        unfold dotRow
        rw [if_neg hc']
  · rintro h₄ tk m₁ news₁ F₄ N₄ ⟨out, nn, e1, rfl, hout⟩
    have F₅ := fr_says F₄ e1
    walk_at "goLQ"
    have hsl : (strValues rw₀).length = rw₀.length := by unfold strValues; rw [List.length_map]
    rw [hsl, List.take_length] at hout
    have hrows : (out.map Prod.fst).map (fun p => p.cps.toList) = (splitL [13, 10] 0 [] (ends x.cps.toList)).map dotRow := by
      rw [← hrow, List.map_map, List.map_map]
      exact hout
    have hjoin : (Txt.join (Str.ofString "\r\n") (out.map Prod.fst)) = ⟨(quote x.cps.toList).toArray⟩ := by
      apply Str.ext'
      apply Array.toList_inj.mp
      show (Builtin.Str.glued (Str.ofString "\r\n") (out.map Prod.fst)).cps.toList = _
      rw [StrLaws.glued_eq_join, join_toList, hrows, show (Str.ofString "\r\n").cps.toList = [13, 10] by decide, rows_quote0]
    have hsum : ((out.map Prod.fst).map (·.length)).sum + (out.map Prod.fst).length * 2 ≤ 16777216 := by
      have h1 := joinL_len [13, 10] ((splitL [13, 10] 0 [] (ends x.cps.toList)).map dotRow) (by
        obtain ⟨p, q, e⟩ := splitL_ne [13, 10] 0 [] (ends x.cps.toList)
        rw [e]; simp)
      rw [rows_quote0, ← hrows] at h1
      have h2 := dots_len (ends x.cps.toList) true
      have h3 := ends_len x.cps.toList
      have e := Array.length_toList (xs := x.cps)
      have h4 : ((out.map Prod.fst).map (·.length)) = (((out.map Prod.fst).map (fun p => p.cps.toList)).map List.length) := by
        rw [List.map_map (g := List.length)]
        exact List.map_congr_left fun p _ => (Array.length_toList (xs := p.cps)).symm
      rw [h4]
      rw [List.length_map (f := fun p : Str => p.cps.toList)] at h1
      unfold quote at h1
      simp only [List.length_cons, List.length_nil] at h1
      omega
    refine join_list (ys := out.map Prod.fst) (PySem.IsL.isList (n := nn) (N₄ _ (mem_setN_self (.head _))).1) (strsAre_strValues _) hsum ?_
    intro t₉ k₉
    rw [hjoin]
    walk_at "goLQ"
    refine leaveK_ F₄ (fun p hp => N₄ p ?_) (fun F₆ N₆ => h _ _ _ F₆ N₆)
    refine mem_setN_ne (.tail _ hp) ?_
    exact Nat.ne_of_lt (lR p hp)
end
end Mine
end

/- part LJ -/
section
open PySem PySem.W PyProof.Rows
set_option Elab.async false
set_option maxRecDepth 100000
namespace Mine
local macro_rules | `(tactic| walk_at "goLJ") => `(tactic| repeat ((fail_if_success (with_reducible show wpAny _ _ (exec (Stmt.While _ _ _ _) _) _ _ _)); (fail_if_success (with_reducible show wpAny _ _ (exec (Stmt.For _ _ _ _ _) _) _ _ _)); (fail_if_success (with_reducible show wpAny _ _ (call (Value.ref _) _ _) _ _ _)); (fail_if_success (with_reducible show ite _ _ _)); (fail_if_success (with_reducible show wpAny _ _ (getMethod (Value.ref _) _ _) _ _ _)); (first | walk1 | (dsimp only; walk1)); (try dsimp only)))
section
variable {w : World} {A A₀ : Around} {base h₀ : Heap} {outer : List Env} {env : Env} {L : Addr} {m mg mb : Str → Option Value} {mean : ExcName → Option Value} {s : Shared} {news : List (Addr × Obj)} {Q : Value → Shared → Prop} {E : Value → Shared → Prop}
theorem notin_last (a : Str) : (!([Str.ofString "", Str.ofString "\r", Str.ofString "\n"].any fun x => x == Txt.slice a (some (-1)) none)) = decide (a.cps.toList ≠ [] ∧ a.cps.toList.getLast? ≠ some 13 ∧ a.cps.toList.getLast? ≠ some 10) := by
  have e1 : (Str.ofString "" == Txt.slice a (some (-1)) none) = (a.cps.toList == []) := by
    rw [beq_str, slice_last, show (Str.ofString "").cps.toList = [] by decide]
    cases h : a.cps.toList with
    | nil => rfl
    | cons c r =>
      have hl : (c :: r).length - 1 < (c :: r).length := by simp
      rw [List.drop_eq_getElem_cons hl]; rfl
  have e2 : (Str.ofString "\r" == Txt.slice a (some (-1)) none) = (a.cps.toList.getLast? == some 13) := by
    rw [beq_str, slice_last, show (Str.ofString "\r").cps.toList = [13] by decide, BEq.comm, last_beq]
  have e3 : (Str.ofString "\n" == Txt.slice a (some (-1)) none) = (a.cps.toList.getLast? == some 10) := by
    rw [beq_str, slice_last, show (Str.ofString "\n").cps.toList = [10] by decide, BEq.comm, last_beq]
  simp only [List.any_cons, List.any_nil, e1, e2, e3, Bool.or_false]
  by_cases h1 : a.cps.toList = []
  · rw [h1]; rfl
  · by_cases h2 : a.cps.toList.getLast? = some 13
    · rw [h2]; simp
    · by_cases h3 : a.cps.toList.getLast? = some 10
      · rw [h3]; simp
      · have b1 : (a.cps.toList == []) = false := beq_eq_false_iff_ne.mpr h1
        have b2 : (a.cps.toList.getLast? == some 13) = false := beq_eq_false_iff_ne.mpr h2
        have b3 : (a.cps.toList.getLast? == some 10) = false := beq_eq_false_iff_ne.mpr h3
        rw [b1, b2, b3, decide_eq_true ⟨h1, h2, h3⟩]; rfl
noncomputable def joinedL (l r a b : List Nat) : List Nat :=
  if a.getLast? = some 13 ∧ b.head? = some 10 then l ++ r.drop 2 else if b.head? = some 46 ∧ (a ≠ [] ∧ a.getLast? ≠ some 13 ∧ a.getLast? ≠ some 10) then l ++ r.drop 1 else l ++ r
theorem joinedL_quote (a b : List Nat) : joinedL (quote a) (quote b) a b = quote (a ++ b) := by
  unfold joinedL
  by_cases h1 : a.getLast? = some 13 ∧ b.head? = some 10
  · rw [if_pos h1, quote_cut h1.1 h1.2]
  · rw [if_neg h1]
    by_cases h2 : b.head? = some 46 ∧ (a ≠ [] ∧ a.getLast? ≠ some 13 ∧ a.getLast? ≠ some 10)
    · rw [if_pos h2, quote_dot h2.2.1 h2.2.2.1 h2.2.2.2 h2.1]
    · rw [if_neg h2, quote_plain h1 h2]
set_option maxHeartbeats 8000000 in
theorem lj_call {kk : Nat} (C : Cx kk w A A₀ base h₀ outer env L mean mg mb) (F : Fr h₀ L s.heap m) (N : News h₀ L s.heap news) {l r a b : Str} {t1 t2 t3 t4 : Tok} (hl : l.length ≤ 1048576) (hr : r.length ≤ 1048576) (ha : a.length ≤ 1048576) (hb : b.length ≤ 1048576)
    (h : ∀ h' tk t', Fr h₀ L h' m → News h₀ L h' news → Q (.str ⟨(joinedL l.cps.toList r.cps.toList a.cps.toList b.cps.toList).toArray⟩ t') { s with heap := h', toks := tk }) :
    wpAny (model PG w) A (call (.ref 111) [.str l t1, .str r t2, .str a t3, .str b t4]) Q E s := by
  have C₀ := C
  obtain ⟨B, X, T, hA, hf, hke, hd, hu, hh⟩ := C
  refine wpAny_call ?_
  refine' code_def (binds := [(Str.ofString "left", .str l t1), (Str.ofString "right", .str r t2), (Str.ofString "ahead", .str a t3), (Str.ofString "behind", .str b t4)]) B F X N T hA hf hke ?k6 ?k7 ?k8 ?k9 ?kB ?_ ?c2 ?c3 ?c4 ?c5
  case k6 => k_is
  case k7 => k_is
  case k8 => simp only [recursionLimit]; omega
  case k9 => exact BindsTo.of_eq rfl
  case c5 => decide
  case kB => exact locs rfl
  case c2 => exact rfl
  case c3 => exact rfl
  case c4 => exact rfl
  intro g' L' h' FG' F' N' B' X' T'
  dsimp only
  clear X T B F N
  refine wpAny_mono (E := fun _ _ => False) ?_ (fun _ _ x => x) (fun _ _ x => False.elim x)
  k_fold
  w_on
  have q1 : (Txt.slice a (some (-1)) none == Str.ofString "\r") = (a.cps.toList.getLast? == some 13) := by
    rw [beq_str, slice_last, show (Str.ofString "\r").cps.toList = [13] by decide, last_beq]
  have q2 : (Txt.slice b none (some 1) == Str.ofString "\n") = (b.cps.toList.head? == some 10) := by
    rw [beq_str, slice_to1, show (Str.ofString "\n").cps.toList = [10] by decide, take1_beq]
  have q3 : (Txt.slice b none (some 1) == Str.ofString ".") = (b.cps.toList.head? == some 46) := by
    rw [beq_str, slice_to1, show (Str.ofString ".").cps.toList = [46] by decide, take1_beq]
  have q4 : (!([Str.ofString "", Str.ofString "\r", Str.ofString "\n"].any fun x => x == Txt.slice a (some (-1)) none)) = decide (a.cps.toList ≠ [] ∧ a.cps.toList.getLast? ≠ some 13 ∧ a.cps.toList.getLast? ≠ some 10) := notin_last a
  walk_at "goLJ"
  rw [q1]
  refine iteB (fun c1 => ?_) (fun c1 => ?_)
  · walk_at "goLJ"
    rw [q2]
    refine iteB (fun c2 => ?_) (fun c2 => ?_)
    · walk_at "goLJ"
      rw [if_pos rfl]
      walk_at "goLJ"
      rename News _ _ _ _ => N₉
      rename Fr _ _ _ _ => F₉
      refine leaveK_ (news' := news) F₉ (fun p hp => N₉ p (by first | exact hp | exact .tail _ hp)) (fun F₆ N₆ => ?_)
      have e9 : l ++ Txt.slice r (some 2) none = ⟨(joinedL l.cps.toList r.cps.toList a.cps.toList b.cps.toList).toArray⟩ := by
        apply StrLaws.mk_of_toList
        rw [Str.cps_append, Array.toList_append, slice_from2]
        unfold joinedL
        rw [if_pos ⟨beq_iff_eq.mp c1, beq_iff_eq.mp c2⟩]
      rw [e9]
      exact h _ _ _ F₆ N₆
    · rw [if_neg (by simp)]
      have n1 : ¬ (a.cps.toList.getLast? = some 13 ∧ b.cps.toList.head? = some 10) := by
        rintro ⟨z1, z2⟩
        rw [z2] at c2; simp at c2
      walk_at "goLJ"
      rw [q3]
      refine iteB (fun c3 => ?_) (fun c3 => ?_)
      · walk_at "goLJ"
        rw [q4]
        refine iteB (fun c4 => ?_) (fun c4 => ?_)
        · have n2 : b.cps.toList.head? = some 46 ∧ (a.cps.toList ≠ [] ∧ a.cps.toList.getLast? ≠ some 13 ∧ a.cps.toList.getLast? ≠ some 10) := ⟨beq_iff_eq.mp c3, of_decide_eq_true c4⟩
          walk_at "goLJ"
          rw [if_pos rfl]
          walk_at "goLJ"
          rename News _ _ _ _ => N₉
          rename Fr _ _ _ _ => F₉
          refine leaveK_ (news' := news) F₉ (fun p hp => N₉ p (by first | exact hp | exact .tail _ hp)) (fun F₆ N₆ => ?_)
          have e9 : l ++ Txt.slice r (some 1) none = ⟨(joinedL l.cps.toList r.cps.toList a.cps.toList b.cps.toList).toArray⟩ := by
            apply StrLaws.mk_of_toList
            rw [Str.cps_append, Array.toList_append, slice_from1]
            unfold joinedL
            rw [if_neg n1, if_pos n2]
          rw [e9]
          exact h _ _ _ F₆ N₆

        · have n2 : ¬ (b.cps.toList.head? = some 46 ∧ (a.cps.toList ≠ [] ∧ a.cps.toList.getLast? ≠ some 13 ∧ a.cps.toList.getLast? ≠ some 10)) := fun z => (of_decide_eq_false c4) z.2
          rw [if_neg (by simp)]
          walk_at "goLJ"
          rename News _ _ _ _ => N₉
          rename Fr _ _ _ _ => F₉
          refine leaveK_ (news' := news) F₉ (fun p hp => N₉ p (by first | exact hp | exact .tail _ hp)) (fun F₆ N₆ => ?_)
          have e9 : l ++ r = ⟨(joinedL l.cps.toList r.cps.toList a.cps.toList b.cps.toList).toArray⟩ := by
            apply StrLaws.mk_of_toList
            rw [Str.cps_append, Array.toList_append]
            unfold joinedL
            rw [if_neg n1, if_neg n2]
          rw [e9]
          exact h _ _ _ F₆ N₆

      · have n2 : ¬ (b.cps.toList.head? = some 46 ∧ (a.cps.toList ≠ [] ∧ a.cps.toList.getLast? ≠ some 13 ∧ a.cps.toList.getLast? ≠ some 10)) := fun z => by rw [z.1] at c3; simp at c3
        rw [if_neg (by simp)]
        walk_at "goLJ"
        rename News _ _ _ _ => N₉
        rename Fr _ _ _ _ => F₉
        refine leaveK_ (news' := news) F₉ (fun p hp => N₉ p (by first | exact hp | exact .tail _ hp)) (fun F₆ N₆ => ?_)
        have e9 : l ++ r = ⟨(joinedL l.cps.toList r.cps.toList a.cps.toList b.cps.toList).toArray⟩ := by
          apply StrLaws.mk_of_toList
          rw [Str.cps_append, Array.toList_append]
          unfold joinedL
          rw [if_neg n1, if_neg n2]
        rw [e9]
        exact h _ _ _ F₆ N₆
  · rw [if_neg (by simp)]
    have n1 : ¬ (a.cps.toList.getLast? = some 13 ∧ b.cps.toList.head? = some 10) := by
      rintro ⟨z1, z2⟩
      rw [z1] at c1; simp at c1
    walk_at "goLJ"
    rw [q3]
    refine iteB (fun c3 => ?_) (fun c3 => ?_)
    · walk_at "goLJ"
      rw [q4]
      refine iteB (fun c4 => ?_) (fun c4 => ?_)
      · have n2 : b.cps.toList.head? = some 46 ∧ (a.cps.toList ≠ [] ∧ a.cps.toList.getLast? ≠ some 13 ∧ a.cps.toList.getLast? ≠ some 10) := ⟨beq_iff_eq.mp c3, of_decide_eq_true c4⟩
        walk_at "goLJ"
        rw [if_pos rfl]
        walk_at "goLJ"
        rename News _ _ _ _ => N₉
        rename Fr _ _ _ _ => F₉
        refine leaveK_ (news' := news) F₉ (fun p hp => N₉ p (by first | exact hp | exact .tail _ hp)) (fun F₆ N₆ => ?_)
        have e9 : l ++ Txt.slice r (some 1) none = ⟨(joinedL l.cps.toList r.cps.toList a.cps.toList b.cps.toList).toArray⟩ := by
          apply StrLaws.mk_of_toList
          rw [Str.cps_append, Array.toList_append, slice_from1]
          unfold joinedL
          rw [if_neg n1, if_pos n2]
        rw [e9]
        exact h _ _ _ F₆ N₆

      · have n2 : ¬ (b.cps.toList.head? = some 46 ∧ (a.cps.toList ≠ [] ∧ a.cps.toList.getLast? ≠ some 13 ∧ a.cps.toList.getLast? ≠ some 10)) := fun z => (of_decide_eq_false c4) z.2
        rw [if_neg (by simp)]
        walk_at "goLJ"
        rename News _ _ _ _ => N₉
        rename Fr _ _ _ _ => F₉
        refine leaveK_ (news' := news) F₉ (fun p hp => N₉ p (by first | exact hp | exact .tail _ hp)) (fun F₆ N₆ => ?_)
        have e9 : l ++ r = ⟨(joinedL l.cps.toList r.cps.toList a.cps.toList b.cps.toList).toArray⟩ := by
          apply StrLaws.mk_of_toList
          rw [Str.cps_append, Array.toList_append]
          unfold joinedL
          rw [if_neg n1, if_neg n2]
        rw [e9]
        exact h _ _ _ F₆ N₆

    · have n2 : ¬ (b.cps.toList.head? = some 46 ∧ (a.cps.toList ≠ [] ∧ a.cps.toList.getLast? ≠ some 13 ∧ a.cps.toList.getLast? ≠ some 10)) := fun z => by rw [z.1] at c3; simp at c3
      rw [if_neg (by simp)]
      walk_at "goLJ"
      rename News _ _ _ _ => N₉
      rename Fr _ _ _ _ => F₉
      refine leaveK_ (news' := news) F₉ (fun p hp => N₉ p (by first | exact hp | exact .tail _ hp)) (fun F₆ N₆ => ?_)
      have e9 : l ++ r = ⟨(joinedL l.cps.toList r.cps.toList a.cps.toList b.cps.toList).toArray⟩ := by
        apply StrLaws.mk_of_toList
        rw [Str.cps_append, Array.toList_append]
        unfold joinedL
        rw [if_neg n1, if_neg n2]
      rw [e9]
      exact h _ _ _ F₆ N₆
end
end Mine
end

/- part LM -/
section
open PySem PySem.W PyProof.Rows
set_option Elab.async false
set_option maxRecDepth 100000
namespace Mine
local macro_rules | `(tactic| walk_at "goLM") => `(tactic| repeat ((fail_if_success (with_reducible show wpAny _ _ (exec (Stmt.While _ _ _ _) _) _ _ _)); (fail_if_success (with_reducible show wpAny _ _ (exec (Stmt.For _ _ _ _ _) _) _ _ _)); (fail_if_success (with_reducible show wpAny _ _ (call (Value.ref _) _ _) _ _ _)); (fail_if_success (with_reducible show ite _ _ _)); (fail_if_success (with_reducible show wpAny _ _ (getMethod (Value.ref _) _ _) _ _ _)); (first | walk1 | (dsimp only; walk1)); (try dsimp only)))
section
variable {w : World} {A A₀ : Around} {base h₀ : Heap} {outer : List Env} {env : Env} {L : Addr} {m mg mb : Str → Option Value} {mean : ExcName → Option Value} {s : Shared} {news : List (Addr × Obj)} {Q : Value → Shared → Prop} {E : Value → Shared → Prop}
set_option maxHeartbeats 8000000 in
theorem lm_call {kk : Nat} (C : Cx kk w A A₀ base h₀ outer env L mean mg mb) (F : Fr h₀ L s.heap m) {n : Int} {t : Tok}
    (h : ∀ h' tk t' (x : Str), x.cps.size ≤ 3 → (∀ b o, s.heap.get? b = some o → h'.get? b = some o) → Q (.str x t') { s with heap := h', toks := tk }) :
    wpAny (model PG w) A (call (.ref 90) [.int n t]) Q E s := by
  have C₀ := C
  obtain ⟨B, X, T, hA, hf, hke, hd, hu, hh⟩ := C
  refine wpAny_call ?_
  refine' code_defG (binds := [(Str.ofString "number", .int n t)]) B F X (News.nil (h₀ := h₀) (L := L) (h := s.heap)) T hA hf hke ?k6 ?k7 ?k8 ?k9 ?kB ?_ ?c2 ?c3 ?c4 ?c5
  case k6 => k_is
  case k7 => k_is
  case k8 => simp only [recursionLimit]; omega
  case k9 => exact BindsTo.of_eq rfl
  case c5 => decide
  case kB => exact locs rfl
  case c2 => exact rfl
  case c3 => exact rfl
  case c4 => exact rfl
  intro g' L' h' FG' F' N' B' X' T' GS'
  dsimp only
  clear X T B F
  refine wpAny_mono (E := fun _ _ => False) ?_ (fun _ _ x => x) (fun _ _ x => False.elim x)
  k_fold
  w_on
  walk_at "goLM"
  rename Fr _ _ _ _ => F₁
  rename News _ _ _ _ => N₁
  rename_i tk₀ S _ lS _ _ _ _ _
  obtain ⟨vs, ⟨hv8, hvs⟩, N₂⟩ : ∃ vs : List Value, (vs.length = 8 ∧ ∀ v ∈ vs, ∃ y u, v = Value.str y u ∧ y.cps.size = 1) ∧ News g' L' _ ((S, W.listOf vs.toArray 0) :: []) := by
    refine ⟨_, ⟨rfl, ?_⟩, N₁⟩
    intro v hv
    simp only [List.mem_cons, List.not_mem_nil, or_false] at hv
    rcases hv with rfl | rfl | rfl | rfl | rfl | rfl | rfl | rfl <;> exact ⟨_, _, rfl, rfl⟩
  clear N₁
  have hm0 : 0 ≤ n.fmod 512 ∧ n.fmod 512 < 512 := ⟨Int.fmod_nonneg_of_pos n (by decide), Int.fmod_lt_of_pos n (by decide)⟩
  obtain ⟨l0, hl0⟩ := Int.eq_ofNat_of_zero_le hm0.1
  rw [hl0] at F₁
  have hl1 : l0 < 512 := by omega
  refine While_inv2 (J := fun k m₁ news₁ => ∃ (lf : Nat) (tl : Tok) (x : Str) (tm : Tok), k = lf ∧ AllSay m₁ [(Str.ofString "signs", .ref S), (Str.ofString "left", .int lf tl), (Str.ofString "mail", .str x tm)] ∧ news₁ = (S, W.listOf vs.toArray 0) :: [] ∧ lf * 8 ^ x.cps.size < 512 ∧ x.cps.size ≤ 3)
      (n₀ := l0) F₁ N₂ ⟨l0, _, Str.ofString "", _, rfl, ⟨rfl, rfl, rfl, trivial⟩, rfl, ?_, by decide⟩ ?_ (fun _ _ x => False.elim x)
  · show l0 * 8 ^ 0 < 512
    omega
  rintro k m₁ news₁ h₁ tk₁ F₁ N₁ ⟨lf, tl, x, tm, rfl, e1, rfl, hb, hx3⟩
  have F₂ := fr_says F₁ e1
  clear F₁ N₂
  walk_at "goLM"
  refine iteB (fun hc => ?_) (fun hc => ?_)
  · have hk : k ≠ 0 := by rintro rfl; simp at hc
    have hx2 : x.cps.size ≤ 2 := by
      rcases Nat.lt_or_ge x.cps.size 3 with q | q
      · omega
      · exfalso
        have e : x.cps.size = 3 := by omega
        rw [e] at hb
        omega
    have hfm : ((k : Int)).fmod 8 = ((k % 8 : Nat) : Int) := by
      rw [Int.fmod_eq_emod_of_nonneg _ (by decide)]; omega
    have hfd : ((k : Int)).fdiv 8 = ((k / 8 : Nat) : Int) := by
      rw [Int.fdiv_eq_ediv_of_nonneg _ (by decide)]; omega
    have hi8 : k % 8 < vs.length := by rw [hv8]; omega
    obtain ⟨y, u, ey, hy1⟩ := hvs vs[k % 8] (List.getElem_mem hi8)
    have hxl : x.length ≤ 2 := hx2
    have hyl : y.length ≤ 1 := Nat.le_of_eq hy1
    refine wpAny_execs_cons ?_
    refine wpAny_AugAssign_Name ?_
    walk_at "goLM"
    rw [hfm]
    refine sub_N (vs := vs) (n := 0) N₁ (.head _) (by omega) (by omega) (by rw [Int.toNat_natCast, List.getElem?_eq_getElem hi8]) ?_
    rw [ey]
    refine PyProof.Rows.iadd_str ?_ (by rw [sizeLine_eq]; omega)
    intro t₅ k₅
    walk_at "goLM"
    rename Fr _ _ _ _ => F₇
    rename News _ _ _ _ => N₇
    refine ⟨_, _, _, _, k / 8, rfl, F₇, N₇, by omega, k / 8, _, x ++ y, _, rfl, ⟨rfl, congrArg (fun z => some (Value.int z _)) hfd, rfl, trivial⟩, rfl, ?_, ?_⟩
    · have e : (x ++ y).cps.size = x.cps.size + 1 := by rw [Str.cps_append, Array.size_append, hy1]
      rw [e, Nat.pow_succ, Nat.mul_comm (8 ^ x.cps.size) 8, ← Nat.mul_assoc]
      refine Nat.lt_of_le_of_lt (Nat.mul_le_mul_right _ (Nat.div_mul_le_self k 8)) hb
    · rw [Str.cps_append, Array.size_append, hy1]; omega
  · walk_at "goLM"
    exact leaveK_ (news' := []) F₂ News.nil (fun F₆ N₆ => h _ _ _ x hx3 (fun b o e => F₂.keep b o (GS' b o e (by simp))))
end
end Mine
end

/- part QD -/
section
open PySem PySem.W PyProof.Rows
set_option Elab.async false
set_option maxRecDepth 100000
namespace Mine
local macro_rules | `(tactic| walk_at "goQD") => `(tactic| repeat ((fail_if_success (with_reducible show wpAny _ _ (exec (Stmt.While _ _ _ _) _) _ _ _)); (fail_if_success (with_reducible show wpAny _ _ (exec (Stmt.For _ _ _ _ _) _) _ _ _)); (fail_if_success (with_reducible show wpAny _ _ (call (Value.ref _) _ _) _ _ _)); (fail_if_success (with_reducible show ite _ _ _)); (first | walk1 | (dsimp only; walk1)); (try dsimp only)))
section
variable {w : World} {A A₀ : Around} {base h₀ : Heap} {outer : List Env} {env : Env} {L : Addr} {m mg mb : Str → Option Value} {mean : ExcName → Option Value} {s : Shared} {news : List (Addr × Obj)} {Q : Value → Shared → Prop} {E : Value → Shared → Prop}
theorem pat1 {P : Params} {h : Heap} (X : (hd.heap_39 P).In h) : IsPat h 36 code1 :=
  ⟨_, _, _, _, _, _, X 36 _ (by k_is), X 35 _ (by k_is), by decide +kernel⟩
theorem pat2 {P : Params} {h : Heap} (X : (hd.heap_39 P).In h) : IsPat h 41 code2 :=
  ⟨_, _, _, _, _, _, X 41 _ (by k_is), X 40 _ (by k_is), by decide +kernel⟩
theorem meth_sub {M : Model} {A : Around} {E : Value → Shared → Prop} {s : Shared} {pat : Addr} {code : Array Nat} {pl : Sem Bool} {Q : Value × List Value → Shared → Prop} (hp : IsPat s.heap pat code) (h : Q (.builtin "re.Pattern.sub", [.ref pat]) s) :
    wpAny M A (getMethod (.ref pat) (Str.ofString "sub") pl) Q E s := by
  obtain ⟨ps, t1, fl, t2, ct, cv, a, b, c⟩ := hp.ex
  exact getMethod_builtin ⟨_, a, rfl⟩ plainAttrs_rp slot_rp_sub type_rp_sub (fun x e => by cases e; exact ⟨_, a, rfl⟩) h
set_option maxHeartbeats 8000000 in
theorem qd_call {kk : Nat} (C : Cx kk w A A₀ base h₀ outer env L mean mg mb) (F : Fr h₀ L s.heap m) (N : News h₀ L s.heap news) {x : Str} {t : Tok} (hx : x.cps.size ≤ 2 ^ 19)
    (h : ∀ h' tk t', Fr h₀ L h' m → News h₀ L h' news → Q (.str ⟨(quote x.cps.toList).toArray⟩ t') { s with heap := h', toks := tk }) :
    wpAny (model PG w) A (call (.ref 48) [.str x t]) Q E s := by
  have C₀ := C
  obtain ⟨B, X, T, hA, hf, hke, hd, hu, hh⟩ := C
  refine wpAny_call ?_
  refine' code_def (binds := [(Str.ofString "data", .str x t)]) B F X N T hA hf hke ?k6 ?k7 ?k8 ?k9 ?kB ?_ ?c2 ?c3 ?c4 ?c5
  case k6 => k_is
  case k7 => k_is
  case k8 => simp only [recursionLimit]; omega
  case k9 => exact BindsTo.of_eq rfl
  case c5 => decide
  case kB => exact locs rfl
  case c2 => exact rfl
  case c3 => exact rfl
  case c4 => exact rfl
  intro g' L' h' FG' F' N' B' X' T'
  dsimp only
  clear X T B F N
  refine wpAny_mono (E := fun _ _ => False) ?_ (fun _ _ x => x) (fun _ _ x => False.elim x)
  k_fold
  w_on
  walk_at "goQD"
  refine meth_sub (pat1 (X'.keeps F'.keep)) ?_
  walk_at "goQD"
  refine meth_sub (pat2 (X'.keeps F'.keep)) ?_
  walk_at "goQD"
  refine sub_call (pat := 41) (r := Str.ofString "\r\n") (tr := 342) (find := next2 x.cps) (Nat.le_trans hx (by decide)) (by decide +kernel) (by decide +kernel) (fun p hp => ?_) (fun p a b e => next2_ord _ _ _ _ _ (Nat.le_refl _) e) (pat2 (X'.keeps F'.keep)) ?_
  · obtain ⟨N, h1, h2⟩ := for2 x.cps p hp
    exact ⟨N, Nat.le_trans h1 (by decide), h2⟩
  intro h₁ tk₁ t₁ k₁
  rw [show (Str.ofString "\r\n").cps.toList = [13, 10] by decide, sub2 x.cps _ _ 0 (Nat.le_refl _) (Nat.sub_le _ _) (Nat.zero_le _), List.drop_zero]
  have F₁ := F'.kept k₁
  have N₁ := N'.grown k₁
  walk_at "goQD"
  have hsz : (ends x.cps.toList).length ≤ 2 ^ 20 := by
    have := ends_len x.cps.toList
    have e := Array.length_toList (xs := x.cps)
    omega
  refine sub_call (pat := 36) (x := ⟨(ends x.cps.toList).toArray⟩) (find := find1 (ends x.cps.toList).toArray) (by rw [List.size_toArray]; exact hsz) (by decide +kernel) (by decide +kernel) (fun p hp => ?_) (fun p a b e => find1_ord _ _ _ _ e) (pat1 (X'.keeps F₁.keep)) ?_
  · obtain ⟨N, h1, h2⟩ := for1 (ends x.cps.toList).toArray p hp
    exact ⟨N, Nat.le_trans h1 (by rw [List.size_toArray]; omega), h2⟩
  intro h₂ tk₂ t₂ k₂
  rw [show (Str.ofString "..").cps.toList = [46, 46] by decide, sub1 (ends x.cps.toList).toArray _ _ 0 (Nat.le_refl _) (Nat.sub_le _ _) (Nat.zero_le _), List.drop_zero]
  have F₂ := F₁.kept k₂
  have N₂ := N₁.grown k₂
  walk_at "goQD"
  exact leaveK_ F₂ N₂ (fun F₆ N₆ => h _ _ _ F₆ N₆)
end
end Mine
end

/- part PairEq -/
section
/- equality of pairs and of a list of one pair; the last item of a list -/
open PySem PySem.W PyProof.Rows
set_option Elab.async false
set_option maxRecDepth 100000
namespace Mine
open PySem.SeqAt
section
variable {prog : Program} {w : World} {A : Around} {E : Value → Shared → Prop} {s : Shared} {h₀ : Heap} {L : Addr} {m : Str → Option Value} {news : List (Addr × Obj)} {u : Tok}
theorem eq_parts {x y : It} (hq : x.q = y.q) (hp : x.p = y.p) : ∀ j (h1 : j < #[Value.str x.q x.t, .int x.p x.u].size) (h2 : j < #[Value.str y.q y.t, .int y.p y.u].size), EqAt A s #[Value.str x.q x.t, .int x.p x.u][j] #[Value.str y.q y.t, .int y.p y.u][j] true := by
  intro j h1 h2
  match j, h1, h2 with
  | 0, _, _ => exact fun prog w E Q h => wpAny_eqBool_str (by rw [hq]; simpa using h)
  | 1, _, _ => exact fun prog w E Q h => wpAny_eqBool_int (by rw [hp]; simpa using h)
theorem It.tuple {x : It} (N : News h₀ L s.heap news) (hx : (x.a, x.o) ∈ news) : s.heap.IsTuple x.a #[.str x.q x.t, .int x.p x.u] := ⟨_, (N _ hx).1, rfl, _, rfl⟩
theorem ne_pair {x y : It} {Q : Value → Shared → Prop} (hu : A.units < cLine) (N : News h₀ L s.heap news) (hx : (x.a, x.o) ∈ news) (hy : (y.a, y.o) ∈ news) (hq : x.q = y.q) (hp : x.p = y.p) (h : Q (.bool false) s) :
    wpAny (model prog w) A (compareOp .NotEq x.v y.v) Q E s :=
  RcNeAt.tuples (e := fun _ => true) (It.tuple N hx) (It.tuple N hy) hu (eq_parts hq hp) prog w E Q h
theorem eq_pair {x y : It} (hu : A.units < cLine) (N : News h₀ L s.heap news) (hx : (x.a, x.o) ∈ news) (hy : (y.a, y.o) ∈ news) (hq : x.q = y.q) (hp : x.p = y.p) : EqAt A s x.v y.v true := by
  by_cases e : x.a = y.a
  · unfold It.v
    rw [e]
    exact EqAt.same _
  · exact EqAt.of_refs e (RcAt.tuples (e := fun _ => true) (It.tuple N hx) (It.tuple N hy) hu (eq_parts hq hp))
theorem eq_one {x y : It} {D D' : Addr} {n n' : Nat} {Q : Value → Shared → Prop} (hu : A.in1.units < cLine) (hu' : A.units < cLine) (N : News h₀ L s.heap news) (hx : (x.a, x.o) ∈ news) (hy : (y.a, y.o) ∈ news) (hq : x.q = y.q) (hp : x.p = y.p)
    (hl : (D, W.listOf ([x].map It.v).toArray n) ∈ news) (hl' : (D', W.listOf ([y].map It.v).toArray n') ∈ news) (h : Q (.bool true) s) :
    wpAny (model prog w) A (compareOp .Eq (.ref D) (.ref D')) Q E s :=
  eq_listAt (e := fun _ => true) (PySem.IsL.isList (n := n) (N _ hl).1) (PySem.IsL.isList (n := n') (N _ hl').1) rfl hu' (fun j h1 h2 => by
    match j, h1, h2 with
    | 0, _, _ => exact eq_pair hu N hx hy hq hp) h
theorem last_N {value slice : PySem.Expr} {v : Value} {vs : List Value} {n : Nat} {D : Addr} {Q : Value → Shared → Prop} (N : News h₀ L s.heap news) (hm : (D, W.listOf vs.toArray n) ∈ news) (h1 : 1 ≤ vs.length) (hx : vs[vs.length - 1]? = some v) (h : Q v s)
    (hs : subscripted slice false (.ref D) (.int (-1) u) = operate [.ref D, .int (-1) u] (getItem (.ref D) (.int (-1) u)) := by with_unfolding_all rfl) :
    wpAny (model prog w) A (subscriptTail value slice (.ref D) (.int (-1) u)) Q E s :=
  tail_any (PySem.IsL.isList (n := n) (N _ hm).1).typeIs slot_list_getitem.lookup (wpAny_getItem_list_neg (PySem.IsL.isList (n := n) (N _ hm).1) (by decide) (by rw [List.size_toArray]; omega) (by decide) (by
    rw [List.size_toArray, show (-1 + (vs.length : Int)).toNat = vs.length - 1 by omega, List.getElem?_toArray]; exact hx) h) hs
end
end Mine
end

/- part LR -/
section
open PySem PySem.W PyProof.Rows
set_option Elab.async false
set_option maxRecDepth 100000
namespace Mine
local macro_rules | `(tactic| walk_at "goLR") => `(tactic| repeat ((fail_if_success (with_reducible show wpAny _ _ (exec (Stmt.While _ _ _ _) _) _ _ _)); (fail_if_success (with_reducible show wpAny _ _ (exec (Stmt.For _ _ _ _ _) _) _ _ _)); (fail_if_success (with_reducible show wpAny _ _ (call (Value.ref _) _ _) _ _ _)); (fail_if_success (with_reducible show ite _ _ _)); (fail_if_success (with_reducible show wpAny _ _ (getMethod (Value.ref _) _ _) _ _ _)); (first | walk1 | (dsimp only; walk1)); (try dsimp only)))
section
variable {w : World} {A A₀ : Around} {base h₀ : Heap} {outer : List Env} {env : Env} {L : Addr} {m mg mb : Str → Option Value} {mean : ExcName → Option Value} {s : Shared} {news : List (Addr × Obj)} {Q : Value → Shared → Prop} {E : Value → Shared → Prop}
set_option maxHeartbeats 8000000 in
theorem lr_call {kk : Nat} (C : Cx (kk + 3) w A A₀ base h₀ outer env L mean mg mb) (F : Fr h₀ L s.heap m) (N : News h₀ L s.heap news) {nl : Addr} {vs : List Value} {n : Nat} (hm : (nl, W.listOf vs.toArray n) ∈ news) (hvi : ∀ v ∈ vs, ∃ k t, v = Value.int k t)
    (hv2 : 2 ≤ vs.length) (hv18 : vs.length ≤ 18)
    (h : ∀ h' tk, Fr h₀ L h' m → News h₀ L h' news → Q (.bool true) { s with heap := h', toks := tk }) :
    wpAny (model PG w) A (call (.ref 116) [.ref nl]) Q E s := by
  have C₀ := C
  obtain ⟨B, X, T, hA, hf, hke, hd, hu, hh⟩ := C
  refine wpAny_call ?_
  refine' code_def (binds := [(Str.ofString "numbers", .ref nl)]) B F X N T hA hf hke ?k6 ?k7 ?k8 ?k9 ?kB ?_ ?c2 ?c3 ?c4 ?c5
  case k6 => k_is
  case k7 => k_is
  case k8 => simp only [recursionLimit]; omega
  case k9 => exact BindsTo.of_eq rfl
  case c5 => decide
  case kB => exact locs rfl
  case c2 => exact rfl
  case c3 => exact rfl
  case c4 => exact rfl
  intro g' L' h' FG' F' N' B' X' T'
  dsimp only
  clear X T B F N
  refine wpAny_mono (E := fun _ _ => False) ?_ (fun _ _ x => x) (fun _ _ x => False.elim x)
  k_fold
  w_on
  refine wpAny_execs_cons ?_
  refine LCg.Assign_ListComp_U (F₀ := F') (by rfl) (by with_unfolding_all rfl) (by rfl) (by decide) (by rfl) (by decide) (by rfl) (by rfl) (by rfl) ?_
  walk_at "goLR"
  refine LCg.CompSrc.ledger hh (by assumption) (by assumption) hm (by simp only [List.size_toArray, sizeLine_eq]; omega) ?_
  intro g₁
  refine compRest_all (.inr ⟨_, hm, rfl, _, rfl⟩) (fun i ys => ys.length = i ∧ ∀ y ∈ ys, ∃ x t, y = Value.str x t ∧ x.cps.size ≤ 3) (n := vs.length) ?_ ?_ _ 0 [] (by simp) ⟨rfl, fun _ hy => nomatch hy⟩
  · intro i ys v I oI C oC D m₂ h₁ tk E' R hi hJ hP hC hx F₁ N₁ hR
    walk_at "goLR"
    obtain ⟨k, t, rfl⟩ := hvi v (by rw [List.getElem?_toArray] at hP; exact List.mem_of_getElem? hP)
    refine lm_call (C₀.inner B' X' T') F₁ ?_
    intro h₂ tk₂ t₂ y hy hk₂
    refine hR _ _ _ ⟨by rw [List.length_append, hJ.1]; rfl, fun z hz => ?_⟩ (F₁.keeps hk₂) (N₁.grown hk₂)
    rcases List.mem_append.mp hz with hz | hz
    · exact hJ.2 z hz
    · rw [List.mem_singleton.mp hz]; exact ⟨y, t₂, rfl, hy⟩
  · intro ys hJ ML h₁ tk F₁ N₁ off
    obtain ⟨ms, ems, hml, hms⟩ : ∃ ms : List (Str × Tok), ys = strValues ms ∧ ms.length = vs.length ∧ ∀ x ∈ ms, x.1.cps.size ≤ 3 := by
      refine ⟨ys.map fun y => match y with | .str x t => (x, t) | _ => default, ?_, by simpa using hJ.1, ?_⟩
      · unfold strValues
        rw [List.map_map]
        conv => lhs; rw [← List.map_id ys]
        apply List.map_congr_left
        intro y hy
        obtain ⟨x, t, rfl, _⟩ := hJ.2 y hy
        rfl
      · intro x hx
        obtain ⟨y, hy, rfl⟩ := List.mem_map.mp hx
        obtain ⟨x, t, rfl, hx3⟩ := hJ.2 y hy
        exact hx3
    subst ems
    clear hJ
    dsimp only
    walk_at "goLR"
    rename Fr _ _ _ _ => F₂
    rename News _ _ _ _ => N₂
    rename_i HL _ lH _ _ BL _ lB _
    have hmM : (ML, W.listOf (strValues ms).toArray (strValues ms).length) ∈ (BL, W.listOf #[] 0) :: (HL, W.listOf #[] 0) :: (ML, LCg.lst (strValues ms)) :: news := .tail _ (.tail _ (.head _))
    have msz : (strValues ms).length = vs.length := by unfold strValues; rw [List.length_map, hml]
    have P : Apart news ML HL BL := ⟨Nat.ne_of_lt lH.1, Nat.ne_of_lt lB.2.1, Nat.ne_of_lt lB.1, fun p hp => off1_mem off p hp, fun p hp => Nat.ne_of_lt (allLt_mem lH.2 p hp), fun p hp => Nat.ne_of_lt (allLt_mem lB.2.2 p hp)⟩
    have R₂ : Run news ML HL BL ms [] [] (strValues ms).length 0 0 ((BL, W.listOf #[] 0) :: (HL, W.listOf #[] 0) :: (ML, LCg.lst (strValues ms)) :: news) :=
      ⟨fun p hp => .tail _ (.tail _ (.tail _ hp)), hmM, .tail _ (.head _), .head _, fun _ hx => (nomatch hx), fun _ hx => (nomatch hx)⟩
    generalize (strValues ms).length = nm at R₂ hmM
    generalize hn₂ : (BL, W.listOf #[] 0) :: (HL, W.listOf #[] 0) :: (ML, LCg.lst (strValues ms)) :: news = new2 at N₂ R₂ hmM
    clear hn₂ lB lH
    refine For_invV g' rfl rfl ?_ (fun _ => rfl) (fun _ _ x => False.elim x)
    walk_at "goLR"
    refine len_N N₂ hmM (by omega) ?_
    rw [msz]
    walk_at "goLR"
    rename IsRange _ _ _ _ _ _ _ _ => hR
    rename Fr _ _ _ _ => F₃
    rename News _ _ _ _ => N₃
    refine wpAny_pyIter_range hR (small_one (by omega) (by omega) (by omega) (by omega)) ?_
    rw [show Builtin.Range.rangeSize 0 (↑vs.length) 1 = (vs.length : Int) by rw [rangeSize_one]; split <;> omega]
    refine loopR2 (A := A.deeper _) hh F₃ N₃ (fun i m₁ news₁ => ∃ (hl bl : List It) (nh nb : Nat), AllSay m₁ [(Str.ofString "mails", .ref ML), (Str.ofString "heap", .ref HL), (Str.ofString "bare", .ref BL)] ∧ Run news ML HL BL ms hl bl nm nh nb news₁ ∧ Laid ms i hl bl)
      ⟨[], [], 0, 0, ⟨rfl, rfl, rfl, trivial⟩, R₂, ⟨rfl, rfl, fun _ hx => (nomatch hx), fun _ hx => (nomatch hx)⟩⟩ ?_ ?_
    · rintro i t m₁ news₁ h₄ tk₄ own hi ⟨hl, bl, nh, nb, e1, R₄, D₄⟩ hnI hown ⟨oi, hoi⟩ F₄ N₄
      have F₅ := fr_says (l := [(Str.ofString "place", .int (0 + i * 1) t), (Str.ofString "mails", .ref ML), (Str.ofString "heap", .ref HL), (Str.ofString "bare", .ref BL)]) F₄ ⟨rfl, e1.1, e1.2.1, e1.2.2.1, trivial⟩
      obtain ⟨mx, hmx⟩ : ∃ mx, ms[i]? = some mx := ⟨_, List.getElem?_eq_getElem (by omega)⟩
      have hmx3 : mx.1.cps.size ≤ 3 := hms mx (List.mem_of_getElem? hmx)
      have R₅ : Run news ML HL BL ms hl bl nm nh nb (own ++ news₁) := R₄.mono fun p hp => List.mem_append_right _ hp
      clear F₄ N₃ F₃ hR
      walk_at "goLR"
      refine meth_append N₄ R₅.h ?_
      walk_at "goLR"
      refine sub_N N₄ R₅.m (by omega) (by omega) (strGet (j := i) (by omega) hmx) ?_
      walk_at "goLR"
      refine qd_call (C₀.inner B' X' T') F₅ N₄ (by omega) ?_
      intro h₆ tk₆ t₆ F₆ N₆
      walk_at "goLR"
      rename_i D1 h₇ F₇ N₇ l1
      obtain ⟨X1, eX1, X1p, X1q, hX1⟩ : ∃ X1 : It, X1.a = D1 ∧ X1.p = i ∧ X1.q = ⟨(quote mx.1.cps.toList).toArray⟩ ∧ News g' L' h₇ ((X1.a, X1.o) :: (own ++ news₁)) :=
        ⟨⟨D1, _, t₆, 0 + (i : Int) * 1, t⟩, rfl, by show (0 + (i : Int) * 1) = i; omega, rfl, N₇⟩
      subst eX1
      have R₇ : Run news ML HL BL ms hl bl nm nh nb ((X1.a, X1.o) :: (own ++ news₁)) := R₅.mono fun p hp => .tail _ hp
      have hl18 : hl.length < 18 := by have := D₄.hlen; omega
      refine append_N F₇ hX1 R₇.h (by rw [List.length_map]; omega) ?_
      intro h₈ F₈ N₈
      rw [snoc_v] at N₈
      have R₈ := R₇.setH P hX1 (hl' := hl ++ [X1]) (n' := nh + 1) (fun x hx => by
        rcases List.mem_append.mp hx with q | q
        · exact R₇.hi x q
        · rw [List.mem_singleton.mp q]; exact .head _)
      have iM : ML ≠ _ := hnI _ R₄.m
      have iH : HL ≠ _ := hnI _ R₄.h
      have iB : BL ≠ _ := hnI _ R₄.b
      have o₈ : ∀ p ∈ own, p ∈ setN HL (W.listOf ((hl ++ [X1]).map It.v).toArray (nh + 1)) ((X1.a, X1.o) :: (own ++ news₁)) := fun p hp => mem_setN_ne (.tail _ (List.mem_append_left _ hp)) (fun e => iH (e.symm.trans (hown p hp)))
      have i1 : X1.a ≠ _ := Ne.symm (Nat.ne_of_lt (l1 _ (List.mem_append_left _ hoi)))
      generalize setN HL (W.listOf ((hl ++ [X1]).map It.v).toArray (nh + 1)) ((X1.a, X1.o) :: (own ++ news₁)) = new8 at N₈ R₈ o₈
      clear hX1 N₇ F₇ R₇ l1
      walk_at "goLR"
      refine meth_append N₈ R₈.b ?_
      walk_at "goLR"
      refine sub_N N₈ R₈.m (by omega) (by omega) (strGet (j := i) (by omega) hmx) ?_
      walk_at "goLR"
      refine le_call (C₀.inner B' X' T') F₈ N₈ (by omega) ?_
      intro h₉ tk₉ t₉ F₉ N₉
      walk_at "goLR"
      rename_i D2 h₁₀ F₁₀ N₁₀ l2
      obtain ⟨X2, eX2, X2p, X2q, hX2⟩ : ∃ X2 : It, X2.a = D2 ∧ X2.p = i ∧ X2.q = ⟨(ends mx.1.cps.toList).toArray⟩ ∧ News g' L' h₁₀ ((X2.a, X2.o) :: new8) :=
        ⟨⟨D2, _, t₉, 0 + (i : Int) * 1, t⟩, rfl, by show (0 + (i : Int) * 1) = i; omega, rfl, N₁₀⟩
      subst eX2
      have R₁₀ : Run news ML HL BL ms (hl ++ [X1]) bl nm (nh + 1) nb ((X2.a, X2.o) :: new8) := R₈.mono fun p hp => .tail _ hp
      have bl18 : bl.length < 18 := by have := D₄.blen; omega
      refine append_N F₁₀ hX2 R₁₀.b (by rw [List.length_map]; omega) ?_
      intro h₁₁ F₁₁ N₁₁
      rw [snoc_v] at N₁₁
      have R₁₁ := R₁₀.setB P hX2 (bl' := bl ++ [X2]) (n' := nb + 1) (fun x hx => by
        rcases List.mem_append.mp hx with q | q
        · exact R₁₀.bi x q
        · rw [List.mem_singleton.mp q]; exact .head _)
      have o₁₁ : ∀ p ∈ own, p ∈ setN BL (W.listOf ((bl ++ [X2]).map It.v).toArray (nb + 1)) ((X2.a, X2.o) :: new8) := fun p hp => mem_setN_ne (.tail _ (o₈ p hp)) (fun e => iB (e.symm.trans (hown p hp)))
      have i2 : X2.a ≠ _ := Ne.symm (Nat.ne_of_lt (l2 _ (o₈ _ hoi)))
      generalize setN BL (W.listOf ((bl ++ [X2]).map It.v).toArray (nb + 1)) ((X2.a, X2.o) :: new8) = new11 at N₁₁ R₁₁ o₁₁
      clear hX2 N₁₀ F₁₀ R₁₀ l2
      walk_at "goLR"
      refine ⟨rfl, _, _, _, new11.filter fun p => decide (p.1 ≠ _), rfl, F₁₁, ?_, ?_, hl ++ [X1], bl ++ [X2], nh + 1, nb + 1, ⟨rfl, rfl, rfl, trivial⟩, R₁₁.filter (fun p hp => hnI p (R₄.sub p hp)) iM iH iB ?_ ?_, D₄.more hmx X1p X1q X2p X2q⟩
      · intro p hp
        rcases List.mem_append.mp hp with q | q
        · exact N₁₁ p (o₁₁ p q)
        · exact N₁₁ p (List.mem_filter.mp q).1
      · intro p hp
        rw [List.mem_singleton]
        simpa using (List.mem_filter.mp hp).2
      · intro x hx
        rcases List.mem_append.mp hx with q | q
        · exact hnI _ (R₄.hi x q)
        · rw [List.mem_singleton.mp q]; exact i1
      · intro x hx
        rcases List.mem_append.mp hx with q | q
        · exact hnI _ (R₄.bi x q)
        · rw [List.mem_singleton.mp q]; exact i2
    · rintro h₄ tk₄ m₁ news₁ F₄ N₄ ⟨hl, bl, nh, nb, e1, R₄, D₄⟩
      clear N₃ F₃ hR
      dsimp only
      have F₅ := fr_says F₄ e1
      clear F₄
      walk_at "goLR"
      have hl18 : hl.length = vs.length := D₄.hlen
      have bl18 : bl.length = vs.length := D₄.blen
      refine hf_call (C₀.inner B' X' T') F₅ N₄ R₄.h R₄.hi (by omega) ?_
      intro h₆ tk₆ F₆ N₆
      have R₆ := R₄.setH P N₄ (hl' := heapify It.lt hl) (n' := nh) (fun x hx => R₄.hi x ((heapify_perm hl).subset hx))
      generalize setN HL (W.listOf ((heapify It.lt hl).map It.v).toArray nh) news₁ = new6 at N₆ R₆
      have I₆ : Inv2 (txt ms) (heapify It.lt hl) bl := by
        refine ⟨D₄.inv, ?_, ?_, ?_⟩
        · rw [D₄.bp]
          unfold upTo txt
          rw [List.length_map, hml]
          exact List.mem_map.mpr ⟨vs.length - 1, List.mem_range.mpr (by omega), by omega⟩
        · have : ∀ l : List It, wt (txt ms) l ≤ 3 * l.length := by
            intro l
            unfold wt
            induction l with
            | nil => simp
            | cons a r ih =>
              rw [List.map_cons, List.sum_cons, List.length_cons]
              have : ((txt ms).getD a.p.toNat []).length ≤ 3 := by
                unfold txt
                rw [List.getD_eq_getElem?_getD, List.getElem?_map]
                cases e : ms[a.p.toNat]? with
                | none => simp
                | some x => simpa using hms x (List.mem_of_getElem? e)
              omega
          have := this bl
          omega
        · unfold txt; rw [List.length_map]; omega
      generalize heapify It.lt hl = hl at R₆ I₆
      clear D₄ hl18 R₄ N₄ F₅
      walk_at "goLR"
      rw [if_neg (by simp)]
      walk_at "goLR"
      rename Fr _ _ _ _ => F₇
      rename News _ _ _ _ => N₇
      refine While_inv2 (J := fun k m₁ new1 => ∃ (ms : List (Str × Tok)) (hl bl : List It) (nm nh nb : Nat), k = bl.length ∧ AllSay m₁ [(Str.ofString "mails", .ref ML), (Str.ofString "heap", .ref HL), (Str.ofString "bare", .ref BL)] ∧ Run news ML HL BL ms hl bl nm nh nb new1 ∧ Inv2 (txt ms) hl bl)
        (n₀ := bl.length) F₇ N₇ ⟨ms, hl, bl, nm, nh, nb, rfl, ⟨rfl, rfl, rfl, trivial⟩, R₆, I₆⟩ ?_ (fun _ _ x => False.elim x)
      clear F₇ N₇ R₆ I₆ bl18 hms hml msz e1
      rintro k m₁ new1 h₁ tk₁ F₁ N₁ ⟨ms, hl, bl, nm, nh, nb, rfl, e1, R₁, I₁⟩
      have F₂ := fr_says F₁ e1
      clear F₁
      have c36 : ms.length + bl.length ≤ 36 := by have := I₁.cnt; unfold txt at this; rw [List.length_map] at this; exact this
      have hlb : hl.length = bl.length := I₁.inv.len
      walk_at "goLR"
      refine len_N N₁ R₁.b (by rw [List.length_map]; omega) ?_
      rw [List.length_map]
      walk_at "goLR"
      refine iteB (fun hc => ?_) (fun hc => ?_)
      · have h2 : 2 ≤ bl.length := by simp at hc; omega
        walk_at "goLR"
        refine meth_sort N₁ R₁.b ?_
        walk_at "goLR"
        refine sort_N F₂ N₁ R₁.b R₁.bi I₁.inv.nd h2 (by omega) ?_
        intro h₃ bl' n' hs F₃ N₃
        have R₃ := R₁.setB P N₁ (bl' := bl') (n' := n') (fun x hx => R₁.bi x (hs.1.subset hx))
        generalize setN BL (W.listOf (bl'.map It.v).toArray n') new1 = new3 at N₃ R₃
        have hbl' : bl'.length = bl.length := hs.1.length_eq
        obtain ⟨b0, b1, y, rest, l0, ka, kb, ma, mb, rfl, rfl, pb0, pb1, hka, hkb, hab, h0, p0, q0, h1, p1, q1, hrnd⟩ := I₁.round h2 hs
        clear R₁ N₁ F₂
        walk_at "goLR"
        refine meth_pop N₃ R₃.b ?_
        walk_at "goLR"
        refine pop0_N (by assumption) N₃ R₃.b (List.map_cons ..) (by rw [List.length_map]; omega) ?_
        intro h₄ F₄ N₄
        walk_at "goLR"
        have R₄ := R₃.setB P N₃ (bl' := b1 :: rest) (n' := n' + 1) (fun x hx => R₃.bi x (.tail _ hx))
        have hb0 : (b0.a, b0.o) ∈ setN BL (W.listOf ((b1 :: rest).map It.v).toArray (n' + 1)) new3 := mem_setN_ne (R₃.bi b0 (.head _)) (pair_off N₃ (R₃.bi b0 (.head _)) R₃.b)
        refine pair_at1 N₄ hb0 ?_
        rw [pb0]
        clear hb0
        generalize setN BL (W.listOf ((b1 :: rest).map It.v).toArray (n' + 1)) new3 = new4 at N₄ R₄
        clear R₃ N₃
        walk_at "goLR"
        refine meth_pop (by assumption) R₄.b ?_
        walk_at "goLR"
        rename News _ _ _ _ => N₅
        refine pop0_N (by assumption) N₅ R₄.b (List.map_cons ..) (by rw [List.length_map]; simp at hbl' ⊢; omega) ?_
        intro h₆ F₆ N₆
        walk_at "goLR"
        have R₆ := R₄.setB P N₅ (bl' := rest) (n' := n' + 1 + 1) (fun x hx => R₄.bi x (.tail _ hx))
        have hb1 : (b1.a, b1.o) ∈ setN BL (W.listOf (rest.map It.v).toArray (n' + 1 + 1)) new4 := mem_setN_ne (R₄.bi b1 (.head _)) (pair_off N₅ (R₄.bi b1 (.head _)) R₄.b)
        refine pair_at1 N₆ hb1 ?_
        rw [pb1]
        clear hb1
        generalize setN BL (W.listOf (rest.map It.v).toArray (n' + 1 + 1)) new4 = new6 at N₆ R₆
        clear R₄ N₅
        walk_at "goLR"
        have hlen1 : l0.length + 1 ≤ 36 := by simp at hlb; omega
        rename Fr _ _ _ _ => F₇
        rename News _ _ _ _ => N₇
        refine hp_call (C₀.inner B' X' T') F₇ N₇ R₆.h R₆.hi rfl h0 (by simp; omega) ?_
        intro h₈ tk₈ n₈ F₈ N₈
        have R₈ := R₆.setH P N₇ (hl' := siftup It.lt (l0.set 0 y) 0) (n' := n₈) (fun x hx => R₆.hi x (by
          rcases List.mem_or_eq_of_mem_set (siftup_mem hx) with q | q
          · exact List.mem_append_left _ q
          · rw [q]; simp))
        have hr0 : (l0[0].a, l0[0].o) ∈ setN HL (W.listOf ((siftup It.lt (l0.set 0 y) 0).map It.v).toArray n₈) new6 :=
          mem_setN_ne (R₆.hi _ (List.mem_append_left _ (List.getElem_mem h0))) (pair_off N₇ (R₆.hi _ (List.mem_append_left _ (List.getElem_mem h0))) R₆.h)
        generalize setN HL (W.listOf ((siftup It.lt (l0.set 0 y) 0).map It.v).toArray n₈) new6 = new8 at N₈ R₈ hr0
        generalize hr0e : l0[0] = r0 at p0 q0 hr0
        have hl1 : (siftup It.lt (l0.set 0 y) 0).length = l0.length := by rw [siftup_length, List.length_set]
        generalize hhl1 : siftup It.lt (l0.set 0 y) 0 = hl1' at R₈ h1 p1 q1 hrnd hl1
        clear R₆ N₇ F₇ hhl1
        dsimp only
        refine unpackN_ F₈ N₈ (It.tup N₈ hr0) hh rfl rfl ?_
        intro h₉ F₉ N₉
        dsimp only
        rw [p0, q0]
        walk_at "goLR"
        rename Fr _ _ _ _ => F₁₀
        rename News _ _ _ _ => N₁₀
        refine sub_N N₁₀ R₈.h (by omega) (by omega) (map_get (k := 0) h1) ?_
        refine unpackN_ F₁₀ N₁₀ (It.tup N₁₀ (R₈.hi _ (List.getElem_mem h1))) hh rfl rfl ?_
        intro h₁₁ F₁₁ N₁₁
        dsimp only
        rw [p1, q1]
        clear F₁₀ N₁₀
        walk_at "goLR"
        rw [if_neg (by simp)]
        walk_at "goLR"
        rw [if_neg (by simp)]
        walk_at "goLR"
        rw [if_neg (by simp)]
        obtain ⟨xa, hxa, ea⟩ := txt_at hka
        obtain ⟨xb, hxb, eb⟩ := txt_at hkb
        have sa : xa.1.cps.size = ma.length := by rw [← ea, Array.length_toList]
        have sb : xb.1.cps.size = mb.length := by rw [← eb, Array.length_toList]
        have mka : ka < ms.length := (List.getElem?_eq_some_iff.1 hxa).1
        have mkb : kb < ms.length := (List.getElem?_eq_some_iff.1 hxb).1
        walk_at "goLR"
        refine sub_N (by assumption) R₈.m (by omega) (by omega) (strGet (j := ka) rfl hxa) ?_
        walk_at "goLR"
        refine sub_N (by assumption) R₈.m (by omega) (by omega) (strGet (j := kb) rfl hxb) ?_
        walk_at "goLR"
        refine sub_N (by assumption) R₈.m (by omega) (by omega) (strGet (j := ka) rfl hxa) ?_
        walk_at "goLR"
        refine sub_N (by assumption) R₈.m (by omega) (by omega) (strGet (j := kb) rfl hxb) ?_
        walk_at "goLR"
        have qa : (quote ma).length ≤ 4 * ma.length := Nat.le_trans (dots_len _ _) (by have := ends_len ma; omega)
        have qb : (quote mb).length ≤ 4 * mb.length := Nat.le_trans (dots_len _ _) (by have := ends_len mb; omega)
        have sab : (xa.1 ++ xb.1).cps.toList = ma ++ mb := by
          rw [← ea, ← eb]; exact Array.toList_append
        have lab : (xa.1 ++ xb.1).cps.size = ma.length + mb.length := by rw [← Array.length_toList, sab, List.length_append]
        rename Fr _ _ _ _ => F₁₂
        rename News _ _ _ _ => N₁₂
        refine lj_call (C₀.inner B' X' T') F₁₂ N₁₂ (by show (quote ma).toArray.size ≤ _; rw [List.size_toArray]; omega) (by show (quote mb).toArray.size ≤ _; rw [List.size_toArray]; omega) (by show xa.1.cps.size ≤ _; omega) (by show xb.1.cps.size ≤ _; omega) ?_
        intro h₁₃ tk₁₃ t₁₃ F₁₃ N₁₃
        dsimp only
        rw [ea, eb, joinedL_quote]
        clear F₁₂ N₁₂
        walk_at "goLR"
        rename Fr _ _ _ _ => F₁₄
        rename News _ _ _ _ => N₁₄
        refine qd_call (C₀.inner B' X' T') F₁₄ N₁₄ (by omega) ?_
        intro h₁₅ tk₁₅ t₁₅ F₁₅ N₁₅
        rw [sab]
        clear F₁₄ N₁₄
        walk_at "goLR"
        rw [if_neg (by simp)]
        walk_at "goLR"
        rename Fr _ _ _ _ => F₁₆
        rename News _ _ _ _ => N₁₆
        refine lq_call (C₀.inner B' X' T') F₁₆ N₁₆ (by omega) ?_
        intro h₁₇ tk₁₇ t₁₇ F₁₇ N₁₇
        rw [sab]
        clear F₁₆ N₁₆
        walk_at "goLR"
        rw [if_neg (by simp)]
        walk_at "goLR"
        rw [if_neg (by simp)]
        walk_at "goLR"
        rename News _ _ _ _ => N₁₈
        refine len_N N₁₈ R₈.m (by unfold strValues; rw [List.length_map]; omega) ?_
        rw [show (strValues ms).length = ms.length by unfold strValues; rw [List.length_map]]
        walk_at "goLR"
        rename_i D3 h₁₉ F₁₉ N₁₉ l3
        obtain ⟨X3, eX3, X3p, X3q, hX3⟩ : ∃ X3 : It, X3.a = D3 ∧ X3.p = ms.length ∧ X3.q = ⟨(quote (ma ++ mb)).toArray⟩ ∧ News g' L' h₁₉ ((X3.a, X3.o) :: new8) :=
          ⟨⟨D3, _, t₁₃, ms.length, _⟩, rfl, rfl, rfl, N₁₉⟩
        subst eX3
        have R₁₉ : Run news ML HL BL ms hl1' rest nm n₈ (n' + 1 + 1) ((X3.a, X3.o) :: new8) := R₈.mono fun p hp => .tail _ hp
        refine hr_call (y := X3) (C₀.inner B' X' T') F₁₉ hX3 R₁₉.h R₁₉.hi (.head _) h1 (by omega) ?_
        intro h₂₀ tk₂₀ F₂₀ N₂₀
        have R₂₀ := R₁₉.setH P hX3 (hl' := siftup It.lt (hl1'.set 0 X3) 0) (n' := n₈) (fun x hx => by
          rcases List.mem_or_eq_of_mem_set (siftup_mem hx) with q | q
          · exact R₁₉.hi _ q
          · rw [q]; exact .head _)
        have hr1 : (hl1'[0].a, hl1'[0].o) ∈ setN HL (W.listOf ((siftup It.lt (hl1'.set 0 X3) 0).map It.v).toArray n₈) ((X3.a, X3.o) :: new8) :=
          mem_setN_ne (R₁₉.hi _ (List.getElem_mem h1)) (pair_off hX3 (R₁₉.hi _ (List.getElem_mem h1)) R₁₉.h)
        generalize setN HL (W.listOf ((siftup It.lt (hl1'.set 0 X3) 0).map It.v).toArray n₈) ((X3.a, X3.o) :: new8) = new20 at N₂₀ R₂₀ hr1
        clear N₁₉ F₁₉ R₁₉ hX3 l3 R₈
        walk_at "goLR"
        rename_i D4 h₂₁ F₂₁ N₂₁ l4
        obtain ⟨X4, eX4, X4p, X4q, hX4⟩ : ∃ X4 : It, X4.a = D4 ∧ X4.p = kb ∧ X4.q = ⟨(quote mb).toArray⟩ ∧ News g' L' h₂₁ ((X4.a, X4.o) :: new20) :=
          ⟨⟨D4, _, _, kb, _⟩, rfl, rfl, rfl, N₂₁⟩
        subst eX4
        refine ne_pair (x := hl1'[0]) (y := X4) (by show A.units + 3 < 9900; omega) hX4 (.tail _ hr1) (.head _) (q1.trans X4q.symm) (p1.trans X4p.symm) ?_
        have R₂₁ : Run news ML HL BL ms _ rest nm n₈ (n' + 1 + 1) ((X4.a, X4.o) :: new20) := R₂₀.mono fun p hp => .tail _ hp
        clear N₂₁ R₂₀
        walk_at "goLR"
        rw [if_neg (by simp)]
        walk_at "goLR"
        refine meth_append hX4 R₂₁.b ?_
        walk_at "goLR"
        refine le_call (C₀.inner B' X' T') F₂₁ hX4 (by omega) ?_
        intro h₂₂ tk₂₂ t₂₂ F₂₂ N₂₂
        rw [sab]
        clear F₂₁ hX4 l4
        walk_at "goLR"
        rename News _ _ _ _ => N₂₃
        refine len_N N₂₃ R₂₁.m (by unfold strValues; rw [List.length_map]; omega) ?_
        rw [show (strValues ms).length = ms.length by unfold strValues; rw [List.length_map]]
        walk_at "goLR"
        rename_i D5 h₂₄ F₂₄ N₂₄ l5
        obtain ⟨X5, eX5, X5p, X5q, hX5⟩ : ∃ X5 : It, X5.a = D5 ∧ X5.p = ms.length ∧ X5.q = ⟨(ends (ma ++ mb)).toArray⟩ ∧ News g' L' h₂₄ ((X5.a, X5.o) :: (X4.a, X4.o) :: new20) :=
          ⟨⟨D5, _, t₂₂, ms.length, _⟩, rfl, rfl, rfl, N₂₄⟩
        subst eX5
        have R₂₄ := R₂₁.mono (new2 := (X5.a, X5.o) :: (X4.a, X4.o) :: new20) fun p hp => .tail _ hp
        refine append_N F₂₄ hX5 R₂₄.b (by rw [List.length_map]; simp at hbl'; omega) ?_
        intro h₂₅ F₂₅ N₂₅
        rw [snoc_v] at N₂₅
        have R₂₅ := R₂₄.setB P hX5 (bl' := rest ++ [X5]) (n' := n' + 1 + 1 + 1) (fun x hx => by
          rcases List.mem_append.mp hx with q | q
          · exact R₂₄.bi x q
          · rw [List.mem_singleton.mp q]; exact .head _)
        generalize setN BL (W.listOf ((rest ++ [X5]).map It.v).toArray (n' + 1 + 1 + 1)) ((X5.a, X5.o) :: (X4.a, X4.o) :: new20) = new25 at N₂₅ R₂₅
        clear N₂₄ F₂₄ hX5 R₂₄ R₂₁ l5
        walk_at "goLR"
        refine meth_append (by assumption) R₂₅.m ?_
        walk_at "goLR"
        rename News _ _ _ _ => N₂₆
        refine append_N (by assumption) N₂₆ R₂₅.m (by unfold strValues; rw [List.length_map]; omega) ?_
        intro h₂₇ F₂₇ N₂₇
        have em : ∀ t, strValues ms ++ [Value.str (xa.1 ++ xb.1) t] = strValues (ms ++ [(xa.1 ++ xb.1, t)]) := fun t => by unfold strValues; rw [List.map_append]; rfl
        rw [em] at N₂₇
        have R₂₇ := fun t => R₂₅.setM P N₂₆ (ms' := ms ++ [(xa.1 ++ xb.1, t)]) (n' := nm + 1)
        walk_at "goLR"
        refine ⟨_, _, _, _, (rest ++ [X5]).length, rfl, F₂₇, N₂₇, by simp at hbl' ⊢; omega, ms ++ [(xa.1 ++ xb.1, _)], _, _, _, _, _, rfl, ⟨rfl, rfl, rfl, trivial⟩, R₂₇ _, ?_⟩
        have et : ∀ t, txt (ms ++ [(xa.1 ++ xb.1, t)]) = txt ms ++ [ma ++ mb] := fun t => by unfold txt; rw [List.map_append, List.map_cons, List.map_nil, sab]
        have ml : ((txt ms).length : Int) = ms.length := by unfold txt; rw [List.length_map]
        rw [et]
        exact hrnd X3 X5 (X3p.trans ml.symm) X3q (X5p.trans ml.symm) X5q
      · have hc1 : bl.length ≤ 1 := by simp at hc; omega
        obtain ⟨x, mx, rfl, hne, hmx, hm54, xp, xq⟩ := I₁.one hc1
        obtain ⟨xm, hxm, exm⟩ := txt_at hmx
        have tl : (txt ms).length = ms.length := by unfold txt; rw [List.length_map]
        have sl : (strValues ms).length = ms.length := by unfold strValues; rw [List.length_map]
        rw [tl] at hxm xp
        have m0 : 0 < ms.length := by
          rcases Nat.eq_zero_or_pos ms.length with q | q
          · exact absurd (List.length_eq_zero_iff.1 (tl.trans q)) hne
          · exact q
        have sxm : xm.1.cps.size = mx.length := by rw [← exm, Array.length_toList]
        walk_at "goLR"
        refine last_N N₁ R₁.m (by omega) (v := .str xm.1 xm.2) (by rw [sl]; unfold strValues; rw [List.getElem?_map, hxm]; rfl) ?_
        walk_at "goLR"
        refine lq_call (C₀.inner B' X' T') F₂ N₁ (by omega) ?_
        intro h₃ tk₃ t₃ F₃ N₃
        rw [exm]
        walk_at "goLR"
        rename News _ _ _ _ => N₄
        refine len_N N₄ R₁.m (by omega) ?_
        rw [sl]
        walk_at "goLR"
        rename_i D3 h₅ l3 D4 h₆' F₅ N₅ l4
        obtain ⟨X3, eX3, X3p, X3q, hX3⟩ : ∃ X3 : It, X3.a = D3 ∧ X3.p = (ms.length : Int) - 1 ∧ X3.q = ⟨(quote mx).toArray⟩ ∧ News g' L' h₆' ((D4, W.listOf ([X3].map It.v).toArray 0) :: (X3.a, X3.o) :: new1) :=
          ⟨⟨D3, _, t₃, (ms.length : Int) - 1, _⟩, rfl, rfl, rfl, N₅⟩
        refine eq_one (x := x) (y := X3) (by show A.units + 3 + 1 < 9900; omega) (by show A.units + 3 < 9900; omega) hX3 (.tail _ (.tail _ (R₁.hi x (.head _)))) (.tail _ (.head _)) (xq.trans X3q.symm) (xp.trans X3p.symm) (.tail _ (.tail _ R₁.h)) (.head _) ?_
        walk_at "goLR"
        k_unfold
        dsimp only
        exact leaveK_ F₅ hX3 (fun F₆ N₆ => h _ _ F₆ (fun p hp => N₆ p (.tail _ (.tail _ (R₁.sub p hp)))))
end
end Mine
end

/- part Fin -/
section
open PySem PySem.W PyProof.Rows
set_option Elab.async false
set_option maxRecDepth 100000
namespace Mine
local macro_rules | `(tactic| walk_at "goFin") => `(tactic| repeat ((fail_if_success (with_reducible show wpAny _ _ (exec (Stmt.While _ _ _ _) _) _ _ _)); (fail_if_success (with_reducible show wpAny _ _ (exec (Stmt.For _ _ _ _ _) _) _ _ _)); (fail_if_success (with_reducible show wpAny _ _ (call (Value.ref _) _ _) _ _ _)); (fail_if_success (with_reducible show ite _ _ _)); (fail_if_success (with_reducible show wpAny _ _ (getMethod (Value.ref _) _ _) _ _ _)); (first | walk1 | (dsimp only; walk1)); (try dsimp only)))
set_option maxHeartbeats 8000000 in
theorem fin_ : PySem.Challenge.rw_mr0111_01.Holds := hd (by
  k_go0
  all_goals (try k_fold)
  w_on
  walk_at "goFin"
  rename Fr _ _ _ _ => F₁
  rename News _ _ _ _ => N₁
  rename IntsAre _ _ => hI
  rename Heap.IsList _ _ _ => hL
  rename Top _ _ _ _ _ _ => T₁
  rename Frag.In _ _ => KX
  rename_i lA hA _
  refine' kmk_slice_ints (s := { heap := hA, gens := _, drawn := _, toks := _, os := _ }) (hi := some 12) F₁ N₁ (Fr.lst F₁ hL) .none (.int _ _) hI (kmk_upto hI (by decide)) rfl ?_ ?k1 ?k2 ?k3
  case k1 => with_unfolding_all rfl
  case k2 => intro _; with_unfolding_all rfl
  case k3 => rw [List.size_toArray, hI.length, sizeLine_eq]; omega
  intro D ws h₂ F₂ N₂ l1 hI₂ _ _
  refine add_lists F₂ N₂ (vs := [_, _, _, _, _, _]) (News.isList N₂ (.tail _ (.head _))) (News.isList N₂ (.head _)) ?_ (by rw [sizeLine_eq, hI₂.length, List.length_take]; simp only [List.length_cons, List.length_nil]; omega)
  intro h₃ F₃ N₃
  walk_at "goFin"
  have hI₃ := fun t1 t2 t3 t4 t5 t6 => IntsAre.append (.cons 3 t1 (.cons 1 t2 (.cons 8 t3 (.cons 2 t4 (.cons 11 t5 (.cons 16 t6 .nil)))))) hI₂
  have hl₂ : ws.length ≤ 12 := by rw [hI₂.length, List.length_take]; exact Nat.min_le_left _ _
  refine lr_call (kk := 0) (A₀ := callerA) (outer := []) ⟨below_caller _, KX, T₁, rfl, rfl, rfl, by show 1 + 300 + 1 + (0 + 3) ≤ 700; decide, by show 4 + 3 + 4 * (0 + 3) ≤ 400; decide, rfl⟩ F₃ N₃ (.head _) (fun v hv => (hI₃ _ _ _ _ _ _).all v hv) (by rw [List.length_append]; simp only [List.length_cons, List.length_nil]; omega) (by rw [List.length_append]; simp only [List.length_cons, List.length_nil]; omega) ?_
  intro h₄ tk₄ F₄ N₄
  wrow_close)
end Mine
end

theorem PySem.Challenge.cw_mr0111_01_holds : PySem.Challenge.rw_mr0111_01.Holds := by
  exact Mine.fin_
