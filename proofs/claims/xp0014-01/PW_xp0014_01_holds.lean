import PyProof.Rows.All
import Wide.All
import OpenK.AllK
import Wide.FinOn
import PySem.Challenge.RW_xp0014_01
set_option Elab.async false
set_option linter.unusedVariables false
set_option linter.unusedSimpArgs false
set_option linter.unusedSectionVars false
set_option compiler.extract_closed false
namespace Mine

/-! counting -/
noncomputable abbrev cn (f : Nat → Nat) (d : Nat) (S : List Nat) : Nat := S.countP fun x => f x == d
theorem cn_disj {p q : Nat → Bool} (h : ∀ x, p x = true → q x = true → False) : ∀ (l : List Nat), l.countP p + l.countP q ≤ l.length
  | [] => by simp
  | a :: l => by
    have ih := cn_disj h l
    rw [List.countP_cons, List.countP_cons, List.length_cons]
    by_cases hp : p a = true
    · by_cases hq : q a = true
      · exact (h a hp hq).elim
      · simp [hp, hq]; omega
    · by_cases hq : q a = true
      · simp [hp, hq]; omega
      · simp [hp, hq]; omega
theorem cn_disj' {p q : Nat → Bool} (h : ∀ x, p x = true → q x = true → False) {z : Nat} (hp : p z = false) (hq : q z = false) : ∀ (l : List Nat), z ∈ l → l.countP p + l.countP q < l.length
  | a :: l, hz => by
    have ih := cn_disj h l
    rw [List.countP_cons, List.countP_cons, List.length_cons]
    rcases List.mem_cons.mp hz with rfl | hz
    · simp [hp, hq]; omega
    · have ih := cn_disj' h hp hq l hz
      by_cases h1 : p a = true
      · by_cases h2 : q a = true
        · exact (h a h1 h2).elim
        · simp [h1, h2]; omega
      · by_cases h2 : q a = true
        · simp [h1, h2]; omega
        · simp [h1, h2]; omega
theorem cn_mono {p q : Nat → Bool} (h : ∀ x, p x = true → q x = true) : ∀ (l : List Nat), l.countP p ≤ l.countP q
  | [] => by simp
  | a :: l => by
    have ih := cn_mono h l
    rw [List.countP_cons, List.countP_cons]
    by_cases h1 : p a = true
    · have := h a h1; simp [h1, this]; omega
    · simp [h1]; omega
theorem cn_mono_in {p q : Nat → Bool} : ∀ (l : List Nat), (∀ x ∈ l, p x = true → q x = true) → l.countP p ≤ l.countP q
  | [], _ => by simp
  | a :: l, h => by
    have ih := cn_mono_in l fun x hx => h x (.tail _ hx)
    rw [List.countP_cons, List.countP_cons]
    by_cases h1 : p a = true
    · have := h a (.head _) h1; simp [h1, this]; omega
    · simp [h1]; omega
theorem cn_mono' {p q : Nat → Bool} (h : ∀ x, p x = true → q x = true) {z : Nat} (hp : p z = false) (hq : q z = true) : ∀ (l : List Nat), z ∈ l → l.countP p < l.countP q
  | a :: l, hz => by
    rw [List.countP_cons, List.countP_cons]
    rcases List.mem_cons.mp hz with rfl | hz
    · have ih := cn_mono h l
      simp [hp, hq]; omega
    · have ih := cn_mono' h hp hq l hz
      by_cases h1 : p a = true
      · have := h a h1; simp [h1, this]; omega
      · simp [h1]; omega
theorem cn_pos {p : Nat → Bool} {l : List Nat} (h : 0 < l.countP p) : ∃ x ∈ l, p x = true := List.countP_pos_iff.mp h

/-- how many of both kinds a domain holds -/
noncomputable abbrev NN (f : Nat → Nat) (d : Nat) (S T : List Nat) : Nat := cn f d S + cn f d T
noncomputable def Good2 (S T : List Nat) (n : Nat) (g : Nat → Nat) (x y : Nat) : Prop := ∀ e, (n ≤ NN g e S T → g x = e ∨ g y = e) ∧ (g x = e → g y = e → n < NN g e S T)
noncomputable def Nested (f g : Nat → Nat) : Prop := ∀ x y, g x = g y → f x = f y

section
variable {S T : List Nat} {n : Nat} (hS : S.length = n) (hT : T.length = n) (h1 : 1 ≤ n)
include hS hT h1

theorem NN_app (f : Nat → Nat) (d : Nat) : NN f d S T = (S ++ T).countP fun x => f x == d := by rw [List.countP_append]

theorem len_app : (S ++ T).length = 2 * n := by rw [List.length_append, hS, hT]; omega

theorem inside {f g : Nat → Nat} (hn : Nested f g) {d e : Nat} (hd : n < NN f d S T) (he : n ≤ NN g e S T) : ∀ x, g x = e → f x = d := by
  rw [NN_app hS hT h1] at hd he
  obtain ⟨z, hz, hze⟩ := cn_pos (l := S ++ T) (p := fun x => g x == e) (by omega)
  have hze : g z = e := by simpa using hze
  by_cases q : f z = d
  · intro x hx; rw [← q]; exact hn _ _ (hx.trans hze.symm)
  · have := cn_disj (p := fun x => f x == d) (q := fun x => g x == e) (fun x hx hx' => by
      have a : f x = d := by simpa using hx
      have b : g x = e := by simpa using hx'
      exact q ((hn _ _ (hze.trans b.symm)).trans a)) (S ++ T)
    rw [len_app hS hT h1] at this
    omega

theorem chain : ∀ (gs : List (Nat → Nat)) (f : Nat → Nat) (d : Nat), (∀ g ∈ gs, Nested f g) → gs.Pairwise Nested → n < NN f d S T →
    ∃ x ∈ S, ∃ y ∈ T, f x = d ∧ f y = d ∧ ∀ g ∈ gs, Good2 S T n g x y := by
  intro gs
  induction gs with
  | nil =>
    intro f d _ _ hd
    have a : cn f d S ≤ n := hS ▸ List.countP_le_length
    have b : cn f d T ≤ n := hT ▸ List.countP_le_length
    obtain ⟨x, hx, hxd⟩ := cn_pos (l := S) (p := fun x => f x == d) (by show 0 < cn f d S; unfold NN at hd; omega)
    obtain ⟨y, hy, hyd⟩ := cn_pos (l := T) (p := fun x => f x == d) (by show 0 < cn f d T; unfold NN at hd; omega)
    exact ⟨x, hx, y, hy, by simpa using hxd, by simpa using hyd, fun _ h => nomatch h⟩
  | cons g gs ih =>
    intro f d hnest hpw hd
    have hfg := hnest g (.head _)
    rw [List.pairwise_cons] at hpw
    by_cases H : ∃ e, n < NN g e S T
    · obtain ⟨e, he⟩ := H
      obtain ⟨x, hx, y, hy, hxe, hye, hgood⟩ := ih g e hpw.1 hpw.2 he
      have hin := inside hS hT h1 hfg hd (Nat.le_of_lt he)
      refine ⟨x, hx, y, hy, hin x hxe, hin y hye, fun g' hg' => ?_⟩
      rcases List.mem_cons.mp hg' with rfl | hg'
      · intro e'
        refine ⟨fun q => ?_, fun q1 q2 => ?_⟩
        · by_cases q' : e' = e
          · exact .inl (hxe.trans q'.symm)
          · have := cn_disj (p := fun x => g' x == e) (q := fun x => g' x == e') (fun x hx hx' => by
              have a : g' x = e := by simpa using hx
              have b : g' x = e' := by simpa using hx'
              exact q' (b.symm.trans a)) (S ++ T)
            rw [len_app hS hT h1] at this
            rw [NN_app hS hT h1] at q he
            omega
        · rw [← q1, hxe]; exact he
      · exact hgood g' hg'
    · have H : ∀ e, NN g e S T ≤ n := fun e => Nat.not_lt.mp fun q => H ⟨e, q⟩
      -- a pair that parts at g
      have key : ∃ x ∈ S, ∃ y ∈ T, f x = d ∧ f y = d ∧ g x ≠ g y ∧ ∀ e, n ≤ NN g e S T → g x = e ∨ g y = e := by
        by_cases E : ∃ e, n ≤ NN g e S T
        · obtain ⟨e, he⟩ := E
          have hin := inside hS hT h1 hfg hd he
          have hen : NN g e S T = n := Nat.le_antisymm (H e) he
          -- an element of d outside e
          have hz : ∃ z ∈ S ++ T, f z = d ∧ g z ≠ e := by
            rcases Classical.em (∃ z ∈ S ++ T, f z = d ∧ g z ≠ e) with q | q
            · exact q
            · have := cn_mono_in (p := fun x => f x == d) (q := fun x => g x == e) (S ++ T) (fun x hx hxd => by
                have a : f x = d := by simpa using hxd
                simp only [beq_iff_eq]
                exact Classical.byContradiction fun b => q ⟨x, hx, a, b⟩)
              rw [NN_app hS hT h1] at hd hen
              omega
          obtain ⟨z, hz, hzd, hze⟩ := hz
          have other : ∀ e', n ≤ NN g e' S T → e' = e ∨ g z = e' := fun e' q => by
            by_cases q' : e' = e
            · exact .inl q'
            · refine .inr (Classical.byContradiction fun b => ?_)
              have := cn_disj' (p := fun x => g x == e) (q := fun x => g x == e') (fun x hx hx' => by
                have a : g x = e := by simpa using hx
                have b : g x = e' := by simpa using hx'
                exact q' (b.symm.trans a)) (z := z) (by simpa using hze) (by simpa using b) (S ++ T) hz
              rw [len_app hS hT h1] at this
              rw [NN_app hS hT h1] at q he
              omega
          rcases List.mem_append.mp hz with hz | hz
          · -- z in S: a y of T in e
            have hlt : cn g e S < n := by
              have := cn_mono' (p := fun x => g x == e) (q := fun _ => true) (fun _ _ => rfl) (z := z) (by simpa using hze) rfl S hz
              rw [List.countP_true, hS] at this
              exact this
            obtain ⟨y, hy, hye⟩ := cn_pos (l := T) (p := fun x => g x == e) (by show 0 < cn g e T; unfold NN at hen; omega)
            have hye : g y = e := by simpa using hye
            exact ⟨z, hz, y, hy, hzd, hin y hye, fun q => hze (q.trans hye), fun e' q => (other e' q).elim (fun q' => .inr (hye.trans q'.symm)) .inl⟩
          · have hlt : cn g e T < n := by
              have := cn_mono' (p := fun x => g x == e) (q := fun _ => true) (fun _ _ => rfl) (z := z) (by simpa using hze) rfl T hz
              rw [List.countP_true, hT] at this
              exact this
            obtain ⟨x, hx, hxe⟩ := cn_pos (l := S) (p := fun x => g x == e) (by show 0 < cn g e S; unfold NN at hen; omega)
            have hxe : g x = e := by simpa using hxe
            exact ⟨x, hx, z, hz, hin x hxe, hzd, fun q => hze (q.symm.trans hxe), fun e' q => (other e' q).elim (fun q' => .inl (hxe.trans q'.symm)) .inr⟩
        · have E : ∀ e, NN g e S T < n := fun e => Nat.not_le.mp fun q => E ⟨e, q⟩
          have a : cn f d S ≤ n := hS ▸ List.countP_le_length
          have b : cn f d T ≤ n := hT ▸ List.countP_le_length
          obtain ⟨x, hx, hxd⟩ := cn_pos (l := S) (p := fun x => f x == d) (by show 0 < cn f d S; unfold NN at hd; omega)
          obtain ⟨y, hy, hyd⟩ := cn_pos (l := T) (p := fun x => f x == d) (by show 0 < cn f d T; unfold NN at hd; omega)
          have hxd : f x = d := by simpa using hxd
          have hyd : f y = d := by simpa using hyd
          have no : ∀ e, n ≤ NN g e S T → ∀ {P : Prop}, P := fun e q => absurd (E e) (Nat.not_lt.mpr q)
          by_cases q1 : ∃ y ∈ T, f y = d ∧ g y ≠ g x
          · obtain ⟨y, hy, hyd, hne⟩ := q1
            exact ⟨x, hx, y, hy, hxd, hyd, fun q => hne q.symm, fun e q => no e q⟩
          · by_cases q2 : ∃ x' ∈ S, f x' = d ∧ g x' ≠ g x
            · obtain ⟨x', hx', hxd', hne⟩ := q2
              refine ⟨x', hx', y, hy, hxd', hyd, fun q => hne (q.trans ?_), fun e q => no e q⟩
              exact Classical.byContradiction fun b => q1 ⟨y, hy, hyd, b⟩
            · have := cn_mono_in (p := fun x => f x == d) (q := fun z => g z == g x) (S ++ T) (fun z hz hzd => by
                have a : f z = d := by simpa using hzd
                simp only [beq_iff_eq]
                rcases List.mem_append.mp hz with hz | hz
                · exact Classical.byContradiction fun b => q2 ⟨z, hz, a, b⟩
                · exact Classical.byContradiction fun b => q1 ⟨z, hz, a, b⟩)
              have h2 := H (g x)
              rw [NN_app hS hT h1] at hd h2
              omega
      obtain ⟨x, hx, y, hy, hxd, hyd, hne, hcov⟩ := key
      refine ⟨x, hx, y, hy, hxd, hyd, fun g' hg' => ?_⟩
      rcases List.mem_cons.mp hg' with rfl | hg'
      · exact fun e => ⟨hcov e, fun q1 q2 => (hne (q1.trans q2.symm)).elim⟩
      · have hng := hpw.1 g' hg'
        intro e'
        refine ⟨fun q => ?_, fun q1 q2 => (hne (hng _ _ (q1.trans q2.symm))).elim⟩
        rw [NN_app hS hT h1] at q
        obtain ⟨z, hz, hze⟩ := cn_pos (l := S ++ T) (p := fun x => g' x == e') (by omega)
        have hze : g' z = e' := by simpa using hze
        have hsub : ∀ w, (g' w == e') = true → (g w == g z) = true := fun w hw => by
          have a : g' w = e' := by simpa using hw
          simpa using hng _ _ (a.trans hze.symm)
        have hle := cn_mono hsub (S ++ T)
        have hN := H (g z)
        have hall : ∀ w ∈ S ++ T, g w = g z → g' w = e' := fun w hw hgw => Classical.byContradiction fun b => by
          have := cn_mono' hsub (z := w) (by simpa using b) (by simpa using hgw) (S ++ T) hw
          rw [NN_app hS hT h1] at hN
          omega
        have hc := hcov (g z) (by rw [NN_app hS hT h1]; omega)
        rcases hc with c | c
        · exact .inl (hall x (List.mem_append_left _ hx) c)
        · exact .inr (hall y (List.mem_append_right _ hy) c)
end
end Mine
namespace Mine

/-! sums -/
noncomputable def sm (m : Nat) (F : Nat → Nat) : Nat := ((List.range m).map F).sum
theorem sm_succ (m : Nat) (F : Nat → Nat) : sm (m + 1) F = sm m F + F m := by simp [sm, List.range_succ]
theorem sm_congr {F G : Nat → Nat} : ∀ (m : Nat), (∀ d, d < m → F d = G d) → sm m F = sm m G
  | 0, _ => rfl
  | m + 1, h => by rw [sm_succ, sm_succ, sm_congr m fun d hd => h d (by omega), h m (by omega)]
theorem sm_add {F G : Nat → Nat} : ∀ (m : Nat), sm m (fun d => F d + G d) = sm m F + sm m G
  | 0 => rfl
  | m + 1 => by rw [sm_succ, sm_succ, sm_succ, sm_add m]; omega
theorem sm_le {F G : Nat → Nat} : ∀ (m : Nat), (∀ d, d < m → F d ≤ G d) → sm m F ≤ sm m G
  | 0, _ => Nat.le_refl _
  | m + 1, h => by
    rw [sm_succ, sm_succ]
    have h1 := sm_le m fun d hd => h d (by omega)
    have h2 := h m (by omega)
    omega
theorem sm_zero {F : Nat → Nat} : ∀ (m : Nat), (∀ d, d < m → F d = 0) → sm m F = 0
  | 0, _ => rfl
  | m + 1, h => by rw [sm_succ, sm_zero m fun d hd => h d (by omega), h m (by omega)]
theorem sm_ind (a b : Nat) : ∀ (m : Nat), sm m (fun d => if a = d ∧ b = d then 1 else 0) = if a = b ∧ a < m then 1 else 0
  | 0 => by simp [sm]
  | m + 1 => by
    rw [sm_succ, sm_ind a b m]
    by_cases h1 : a = b
    · subst h1
      by_cases h2 : a < m
      · have : ¬ a = m := by omega
        simp [h2, this]; omega
      · by_cases h3 : a = m
        · simp [h3]
        · have : ¬ a < m + 1 := by omega
          simp [h2, h3, this]
    · have : ¬ (a = m ∧ b = m) := fun q => h1 (q.1.trans q.2.symm)
      simp [h1, this]

theorem cn_cons (f : Nat → Nat) (d x : Nat) (S : List Nat) : cn f d (x :: S) = cn f d S + if f x = d then 1 else 0 := by
  simp only [cn, List.countP_cons, beq_iff_eq]
theorem cn_perm {f : Nat → Nat} {d : Nat} {S S' : List Nat} (h : S.Perm S') : cn f d S = cn f d S' := h.countP_eq _

noncomputable def phi (f : Nat → Nat) (m : Nat) (S T : List Nat) : Nat := sm m fun d => min (cn f d S) (cn f d T)
noncomputable def psi (f : Nat → Nat) (m n : Nat) (S T : List Nat) : Nat := sm m fun d => cn f d S + cn f d T - n
noncomputable abbrev eqn (a b : Nat) : Nat := if a = b then 1 else 0
theorem phi_perm {f : Nat → Nat} {m : Nat} {S S' T T' : List Nat} (h : S.Perm S') (k : T.Perm T') : phi f m S T = phi f m S' T' := sm_congr m fun d _ => by rw [cn_perm h, cn_perm k]
theorem psi_perm {f : Nat → Nat} {m n : Nat} {S S' T T' : List Nat} (h : S.Perm S') (k : T.Perm T') : psi f m n S T = psi f m n S' T' := sm_congr m fun d _ => by rw [cn_perm h, cn_perm k]
section
variable {f : Nat → Nat} {m n x y : Nat} {S T : List Nat} (hx : f x < m)
include hx
theorem ind_eq : sm m (fun d => if f x = d ∧ f y = d then 1 else 0) = eqn (f x) (f y) := by
  rw [sm_ind]
  by_cases h : f x = f y
  · have : f y < m := h ▸ hx
    simp [h, this, eqn]
  · simp [h, eqn]
theorem phi_ge : phi f m S T + eqn (f x) (f y) ≤ phi f m (x :: S) (y :: T) := by
  rw [← ind_eq hx (y := y), phi, ← sm_add]
  refine sm_le m fun d _ => ?_
  rw [cn_cons, cn_cons]
  by_cases h1 : f x = d <;> by_cases h2 : f y = d <;> simp [h1, h2] <;> omega
theorem psi_le : psi f m (n + 1) (x :: S) (y :: T) ≤ psi f m n S T + eqn (f x) (f y) := by
  rw [← ind_eq hx (y := y), psi, psi, ← sm_add]
  refine sm_le m fun d _ => ?_
  rw [cn_cons, cn_cons]
  by_cases h1 : f x = d <;> by_cases h2 : f y = d <;> simp [h1, h2] <;> omega
theorem phi_same (h : f x = f y) : phi f m (x :: S) (y :: T) = phi f m S T + eqn (f x) (f y) := by
  rw [← ind_eq hx (y := y), phi, phi, ← sm_add]
  refine sm_congr m fun d _ => ?_
  rw [cn_cons, cn_cons, h]
  by_cases h2 : f y = d <;> simp [h2] <;> omega
omit hx in
theorem psi_ar {p q : Prop} [Decidable p] [Decidable q] {P Q : Nat} (g1 : n + 1 ≤ (P + if p then 1 else 0) + (Q + if q then 1 else 0) → p ∨ q) (g2 : p → q → n + 1 < (P + if p then 1 else 0) + (Q + if q then 1 else 0)) :
    (P + if p then 1 else 0) + (Q + if q then 1 else 0) - (n + 1) = (P + Q - n) + if p ∧ q then 1 else 0 := by
  by_cases hp : p
  · by_cases hq : q
    · have g2 := g2 hp hq
      rw [if_pos hp, if_pos hq] at g2 ⊢
      rw [if_pos ⟨hp, hq⟩]; omega
    · rw [if_pos hp, if_neg hq, if_neg fun h => hq h.2]; omega
  · by_cases hq : q
    · rw [if_neg hp, if_pos hq, if_neg fun h => hp h.1]; omega
    · rw [if_neg hp, if_neg hq] at g1 ⊢
      have g1 : ¬ n + 1 ≤ P + 0 + (Q + 0) := fun h => (g1 h).elim hp hq
      rw [if_neg fun h => hp h.1]; omega
theorem psi_good (h : Good2 (x :: S) (y :: T) (n + 1) f x y) : psi f m (n + 1) (x :: S) (y :: T) = psi f m n S T + eqn (f x) (f y) := by
  rw [← ind_eq hx (y := y), psi, psi, ← sm_add]
  refine sm_congr m fun d _ => ?_
  obtain ⟨g1, g2⟩ := h d
  rw [NN, cn_cons, cn_cons] at g1 g2
  rw [cn_cons, cn_cons]
  exact psi_ar g1 g2
end
theorem phi_none {f : Nat → Nat} {m : Nat} {S T : List Nat} (h : ∀ x ∈ S, ∀ y ∈ T, f x ≠ f y) : phi f m S T = 0 := by
  refine sm_zero m fun d _ => ?_
  by_cases h1 : 0 < cn f d S
  · by_cases h2 : 0 < cn f d T
    · obtain ⟨x, hx, hxd⟩ := cn_pos h1
      obtain ⟨y, hy, hyd⟩ := cn_pos h2
      exact (h x hx y hy ((by simpa using hxd : f x = d).trans (by simpa using hyd : f y = d).symm)).elim
    · omega
  · omega

/-! pairings -/
noncomputable def agr (f : Nat → Nat) (L : List (Nat × Nat)) : Nat := L.countP fun p => f p.1 == f p.2
theorem agr_cons (f : Nat → Nat) (p : Nat × Nat) (L : List (Nat × Nat)) : agr f (p :: L) = agr f L + eqn (f p.1) (f p.2) := by
  simp only [agr, List.countP_cons, beq_iff_eq, eqn]
theorem agr_bounds {f : Nat → Nat} {m : Nat} : ∀ (L : List (Nat × Nat)), (∀ p ∈ L, f p.1 < m) → agr f L ≤ phi f m (L.map (·.1)) (L.map (·.2)) ∧ psi f m L.length (L.map (·.1)) (L.map (·.2)) ≤ agr f L
  | [], _ => by
    refine ⟨Nat.zero_le _, ?_⟩
    rw [psi, sm_zero m fun d _ => by simp]
    exact Nat.zero_le _
  | p :: L, h => by
    obtain ⟨h1, h2⟩ := agr_bounds L fun q hq => h q (.tail _ hq)
    have hx := h p (.head _)
    have a := phi_ge (f := f) (m := m) (x := p.1) (y := p.2) (S := L.map (·.1)) (T := L.map (·.2)) hx
    have b := psi_le (f := f) (m := m) (n := L.length) (x := p.1) (y := p.2) (S := L.map (·.1)) (T := L.map (·.2)) hx
    rw [agr_cons]
    simp only [List.map_cons, List.length_cons]
    omega

/-! costs -/
noncomputable def partN (Z : List Nat) (a b : Nat) : Nat := (Z.filter fun k => a / k != b / k).length
theorem part_cons (k : Nat) (Z : List Nat) (a b : Nat) : (partN (k :: Z) a b : Int) = partN Z a b + (1 - (eqn (a / k) (b / k) : Nat)) := by
  unfold partN
  rw [List.filter_cons]
  by_cases h : a / k = b / k
  · simp [h, eqn]
  · simp [h, eqn]
theorem cost_step (p : Nat × Nat) (L : List (Nat × Nat)) : ∀ (Z : List Nat), (partN Z p.1 p.2 : Int) + (Z.map fun k => (L.length : Int) - agr (· / k) L).sum = (Z.map fun k => ((p :: L).length : Int) - agr (· / k) (p :: L)).sum
  | [] => rfl
  | k :: Z => by
    have ih := cost_step p L Z
    rw [List.map_cons, List.map_cons, List.sum_cons, List.sum_cons, ← ih, part_cons, agr_cons, List.length_cons]
    push_cast
    omega
theorem cost_sum (Z : List Nat) : ∀ (L : List (Nat × Nat)), (L.map fun p => (partN Z p.1 p.2 : Int)).sum = (Z.map fun k => (L.length : Int) - agr (· / k) L).sum
  | [] => by
    induction Z with
    | nil => rfl
    | cons k Z ih => simp only [List.map_nil, List.sum_nil, List.map_cons, List.sum_cons, ← ih]; simp [agr]
  | p :: L => by
    rw [List.map_cons, List.sum_cons, cost_sum Z L]
    exact cost_step p L Z
end Mine
namespace Mine

noncomputable def IsZ (Z : List Nat) : Prop := Z = [1, 2] ∨ Z = [1, 2, 4, 4]
theorem part12 (a b : Nat) : (partN [1, 2] a b : Int) = (1 - (eqn a b : Nat)) + (1 - (eqn (a / 2) (b / 2) : Nat)) := by
  rw [part_cons, part_cons]
  simp only [partN, List.filter_nil, List.length_nil, Nat.div_one]
  omega
theorem part124 (a b : Nat) : (partN [1, 2, 4, 4] a b : Int) = (1 - (eqn a b : Nat)) + (1 - (eqn (a / 2) (b / 2) : Nat)) + 2 * (1 - (eqn (a / 4) (b / 4) : Nat)) := by
  rw [part_cons, part_cons, part_cons, part_cons]
  simp only [partN, List.filter_nil, List.length_nil, Nat.div_one]
  omega
theorem filter_lt {p q : Nat → Bool} : ∀ {l : List Nat}, (∀ j ∈ l, p j = true → q j = true) → ∀ {k}, k ∈ l → p k = false → q k = true → (l.filter p).length < (l.filter q).length
  | a :: l, h, k, hk, hp, hq => by
    have mono : (l.filter p).length ≤ (l.filter q).length := by
      rw [← List.countP_eq_length_filter, ← List.countP_eq_length_filter]
      exact List.countP_mono_left fun x hx => h x (.tail _ hx)
    rcases List.mem_cons.mp hk with rfl | hk
    · rw [List.filter_cons_of_neg (by rw [hp]; exact Bool.false_ne_true), List.filter_cons_of_pos hq]
      exact Nat.lt_succ_of_le mono
    · have ih := filter_lt (l := l) (fun j hj => h j (.tail _ hj)) hk hp hq
      cases hpa : p a
      · rw [List.filter_cons_of_neg (by rw [hpa]; exact Bool.false_ne_true)]
        refine Nat.lt_of_lt_of_le ih ?_
        cases hqa : q a
        · rw [List.filter_cons_of_neg (by rw [hqa]; exact Bool.false_ne_true)]; exact Nat.le_refl _
        · rw [List.filter_cons_of_pos hqa]; exact Nat.le_succ _
      · rw [List.filter_cons_of_pos hpa, List.filter_cons_of_pos (h a (.head _) hpa)]
        exact Nat.succ_lt_succ ih
theorem z_dvd {Z : List Nat} (hZ : IsZ Z) : ∀ a ∈ Z, ∀ b ∈ Z, a ∣ b ∨ b ∣ a := by
  rcases hZ with rfl | rfl <;> decide
theorem div_up {a b x y : Nat} (d : a ∣ b) (h : x / a = y / a) : x / b = y / b := by
  obtain ⟨m, rfl⟩ := d
  rw [← Nat.div_div_eq_div_mul, ← Nat.div_div_eq_div_mul, h]
theorem part_lt {Z : List Nat} (hZ : IsZ Z) {k x y x' y' : Nat} (hk : k ∈ Z) (h : x' / k = y' / k) (h' : x / k ≠ y / k) : partN Z x' y' < partN Z x y :=
  filter_lt (fun j hj q => bne_iff_ne.mpr fun e => (z_dvd hZ j hj k hk).elim (fun d => h' (div_up d e)) fun d => bne_iff_ne.mp q (div_up d h)) hk (bne_eq_false_iff_eq.mpr h) (bne_iff_ne.mpr h')

theorem near_step {Z : List Nat} (hZ : IsZ Z) {x y : Nat} {S T : List Nat} (hx : x < 12) (hmin : ∀ x' ∈ x :: S, ∀ y' ∈ y :: T, partN Z x y ≤ partN Z x' y') {k : Nat} (hk : k ∈ Z) :
    phi (· / k) (12 / k) (x :: S) (y :: T) = phi (· / k) (12 / k) S T + eqn (x / k) (y / k) := by
  by_cases h : x / k = y / k
  · refine phi_same (f := (· / k)) ?_ h
    show x / k < 12 / k
    have hk' : k = 1 ∨ k = 2 ∨ k = 4 := by
      rcases hZ with rfl | rfl <;> simp at hk <;> omega
    rcases hk' with rfl | rfl | rfl <;> omega
  · have no : ∀ x' ∈ x :: S, ∀ y' ∈ y :: T, x' / k ≠ y' / k := fun x' hx' y' hy' q => by
      have := part_lt hZ hk q h
      have := hmin x' hx' y' hy'
      omega
    rw [phi_none no, phi_none fun x' hx' y' hy' => no x' (.tail _ hx') y' (.tail _ hy')]
    simp [eqn, h]

theorem Good2.perm {S S' T T' : List Nat} {n : Nat} {g : Nat → Nat} {x y : Nat} (h : Good2 S T n g x y) (a : S.Perm S') (b : T.Perm T') : Good2 S' T' n g x y := fun e => by
  have := h e
  rwa [NN, cn_perm a, cn_perm b] at this

noncomputable def lowN (Z : List Nat) (n : Nat) (A B : List Nat) : Int := (Z.map fun k => (n : Int) - phi (· / k) (12 / k) A B).sum
noncomputable def highN (Z : List Nat) (n : Nat) (A B : List Nat) : Int := (Z.map fun k => (n : Int) - psi (· / k) (12 / k) n A B).sum
theorem map_sum_congr {Z : List Nat} {F G : Nat → Int} (h : ∀ k ∈ Z, F k = G k) : (Z.map F).sum = (Z.map G).sum := by rw [List.map_congr_left h]
theorem sum_step (Z : List Nat) (c x y : Nat) (F : Nat → Nat) : (Z.map fun k => ((c + 1 : Nat) : Int) - ((F k + eqn (x / k) (y / k) : Nat) : Int)).sum = partN Z x y + (Z.map fun k => (c : Int) - (F k : Nat)).sum := by
  induction Z with
  | nil => rfl
  | cons k Z ih =>
    rw [List.map_cons, List.map_cons, List.sum_cons, List.sum_cons, ih, part_cons]
    push_cast
    omega

theorem psi0 (f : Nat → Nat) (m n : Nat) : psi f m n [] [] = 0 := sm_zero m fun d _ => by simp
theorem phi0 (f : Nat → Nat) (m : Nat) : phi f m [] [] = 0 := sm_zero m fun d _ => by simp
theorem high0 : ∀ (Z : List Nat), highN Z 0 [] [] = 0
  | [] => rfl
  | k :: Z => by
    have := high0 Z
    unfold highN at this ⊢
    rw [List.map_cons, List.sum_cons, this, psi0]; rfl
theorem low0 : ∀ (Z : List Nat), lowN Z 0 [] [] = 0
  | [] => rfl
  | k :: Z => by
    have := low0 Z
    unfold lowN at this ⊢
    rw [List.map_cons, List.sum_cons, this, phi0]; rfl

section
variable (s t : Nat → Nat)
/-- a pairing of indices -/
structure Pr (I J : List Nat) (L : List (Nat × Nat)) : Prop where
  fst : (L.map (·.1)).Perm I
  snd : (L.map (·.2)).Perm J

theorem ex_high {Z : List Nat} (hZ : IsZ Z) (hs : ∀ i, s i < 12) : ∀ (n : Nat) (I J : List Nat), I.length = n → J.length = n →
    ∃ L, Pr I J L ∧ (L.map fun p => (partN Z (s p.1) (t p.2) : Int)).sum = highN Z n (I.map s) (J.map t)
  | 0, I, J, hI, hJ => by
    have : I = [] := List.length_eq_zero_iff.mp hI
    have : J = [] := List.length_eq_zero_iff.mp hJ
    subst I; subst J
    exact ⟨[], ⟨.nil, .nil⟩, (high0 Z).symm⟩
  | n + 1, I, J, hI, hJ => by
    have hroot : n + 1 < NN (fun _ => 0) 0 (I.map s) (J.map t) := by
      simp only [NN, cn, beq_self_eq_true, List.countP_true, List.length_map]; omega
    obtain ⟨x, hx, y, hy, _, _, hgood⟩ := chain (S := I.map s) (T := J.map t) (n := n + 1) (by simpa using hI) (by simpa using hJ) (by omega) [(· / 4), (· / 2), (· / 1)] (fun _ => 0) 0 (fun g _ a b _ => rfl)
      (by
        simp only [List.pairwise_cons, List.mem_cons, List.not_mem_nil, or_false, false_imp_iff, implies_true, List.Pairwise.nil, and_true, forall_eq_or_imp, forall_eq]
        refine ⟨⟨fun a b h => ?_, fun a b h => ?_⟩, fun a b h => ?_⟩ <;> (simp only at h ⊢; omega)) hroot
    obtain ⟨i, hi, rfl⟩ := List.mem_map.mp hx
    obtain ⟨j, hj, rfl⟩ := List.mem_map.mp hy
    have pI := List.perm_cons_erase hi
    have pJ := List.perm_cons_erase hj
    obtain ⟨L, hL, hsum⟩ := ex_high hZ hs n (I.erase i) (J.erase j) (by rw [List.length_erase_of_mem hi]; omega) (by rw [List.length_erase_of_mem hj]; omega)
    refine ⟨(i, j) :: L, ⟨(hL.fst.cons i).trans pI.symm, (hL.snd.cons j).trans pJ.symm⟩, ?_⟩
    rw [List.map_cons, List.sum_cons, hsum]
    have pS : (I.map s).Perm (s i :: (I.erase i).map s) := pI.map s
    have pT : (J.map t).Perm (t j :: (J.erase j).map t) := pJ.map t
    unfold highN
    rw [← sum_step Z n (s i) (t j) (fun k => psi (· / k) (12 / k) n ((I.erase i).map s) ((J.erase j).map t))]
    refine map_sum_congr fun k hk => ?_
    have hk' : k = 1 ∨ k = 2 ∨ k = 4 := by
      rcases hZ with rfl | rfl <;> simp at hk <;> omega
    have hlt : s i / k < 12 / k := by have := hs i; rcases hk' with rfl | rfl | rfl <;> omega
    have hg : Good2 (I.map s) (J.map t) (n + 1) (· / k) (s i) (t j) := hgood _ (by rcases hk' with rfl | rfl | rfl <;> simp)
    rw [psi_perm pS pT, psi_good (f := (· / k)) hlt (hg.perm pS pT)]
end
end Mine
namespace Mine
theorem map_sum_le {Z : List Nat} {F G : Nat → Int} : (∀ k ∈ Z, F k ≤ G k) → (Z.map F).sum ≤ (Z.map G).sum := by
  induction Z with
  | nil => intro _; exact Int.le_refl _
  | cons k Z ih =>
    intro h
    rw [List.map_cons, List.map_cons, List.sum_cons, List.sum_cons]
    have a := h k (.head _)
    have b := ih fun k hk => h k (.tail _ hk)
    omega
theorem z_lt {Z : List Nat} (hZ : IsZ Z) {k x : Nat} (hk : k ∈ Z) (hx : x < 12) : x / k < 12 / k := by
  have hk' : k = 1 ∨ k = 2 ∨ k = 4 := by
    rcases hZ with rfl | rfl <;> simp at hk <;> omega
  rcases hk' with rfl | rfl | rfl <;> omega
theorem pr_bounds {s t : Nat → Nat} {Z : List Nat} (hZ : IsZ Z) (hs : ∀ i, s i < 12) {I J : List Nat} {L : List (Nat × Nat)} {n : Nat} (hL : Pr I J L) (hI : I.length = n) :
    lowN Z n (I.map s) (J.map t) ≤ (L.map fun p => (partN Z (s p.1) (t p.2) : Int)).sum ∧ (L.map fun p => (partN Z (s p.1) (t p.2) : Int)).sum ≤ highN Z n (I.map s) (J.map t) := by
  have e : (L.map fun p => (partN Z (s p.1) (t p.2) : Int)) = (L.map fun p => (s p.1, t p.2)).map fun q => (partN Z q.1 q.2 : Int) := by rw [List.map_map]; rfl
  rw [e, cost_sum]
  have hl : (L.map fun p => (s p.1, t p.2)).length = n := by
    have := hL.fst.length_eq
    rw [List.length_map] at this ⊢; omega
  have p1 : ((L.map fun p => (s p.1, t p.2)).map (·.1)).Perm (I.map s) := by
    have := hL.fst.map s
    rw [List.map_map] at this ⊢; exact this
  have p2 : ((L.map fun p => (s p.1, t p.2)).map (·.2)).Perm (J.map t) := by
    have := hL.snd.map t
    rw [List.map_map] at this ⊢; exact this
  generalize L.map (fun p => (s p.1, t p.2)) = M at hl p1 p2
  have key : ∀ k ∈ Z, agr (· / k) M ≤ phi (· / k) (12 / k) (I.map s) (J.map t) ∧ psi (· / k) (12 / k) n (I.map s) (J.map t) ≤ agr (· / k) M := fun k hk => by
    have := agr_bounds (f := (· / k)) (m := 12 / k) M fun p hp => by
      have : p.1 ∈ I.map s := p1.subset (List.mem_map.mpr ⟨p, hp, rfl⟩)
      obtain ⟨i, _, e⟩ := List.mem_map.mp this
      rw [← e]
      exact z_lt hZ hk (hs i)
    rwa [phi_perm p1 p2, hl, psi_perm p1 p2] at this
  constructor
  · exact map_sum_le fun k hk => by have := (key k hk).1; rw [hl]; omega
  · exact map_sum_le fun k hk => by have := (key k hk).2; rw [hl]; omega

/-- a nearest pair taken out -/
theorem low_step {s t : Nat → Nat} {Z : List Nat} (hZ : IsZ Z) (hs : ∀ i, s i < 12) {n i j : Nat} {I J I' J' : List Nat} (hI : I.Perm (i :: I')) (hJ : J.Perm (j :: J')) (hmin : ∀ i' ∈ I, ∀ j' ∈ J, partN Z (s i) (t j) ≤ partN Z (s i') (t j')) :
    lowN Z (n + 1) (I.map s) (J.map t) = partN Z (s i) (t j) + lowN Z n (I'.map s) (J'.map t) := by
  unfold lowN
  rw [← sum_step Z n (s i) (t j) (fun k => phi (· / k) (12 / k) (I'.map s) (J'.map t))]
  refine map_sum_congr fun k hk => ?_
  have pS : (I.map s).Perm (s i :: I'.map s) := hI.map s
  have pT : (J.map t).Perm (t j :: J'.map t) := hJ.map t
  rw [phi_perm pS pT, near_step hZ (hs i) (fun x' hx' y' hy' => ?_) hk]
  obtain ⟨i', hi', rfl⟩ := List.mem_map.mp (pS.symm.subset hx')
  obtain ⟨j', hj', rfl⟩ := List.mem_map.mp (pT.symm.subset hy')
  exact hmin i' hi' j' hj'

/-! the four rows in order -/
theorem perm_lift {α β : Type} {f : α → β} {A B : List β} (h : A.Perm B) : ∀ (L : List α), L.map f = A → ∃ L', L.Perm L' ∧ L'.map f = B := by
  induction h with
  | nil => intro L hL; exact ⟨L, .refl _, hL⟩
  | cons x _ ih =>
    intro L hL
    cases L with
    | nil => cases hL
    | cons a L =>
      simp only [List.map_cons, List.cons.injEq] at hL
      obtain ⟨L', h1, h2⟩ := ih L hL.2
      exact ⟨a :: L', h1.cons a, by simp [hL.1, h2]⟩
  | swap x y l =>
    intro L hL
    match L, hL with
    | a :: b :: L, hL =>
      simp only [List.map_cons, List.cons.injEq] at hL
      exact ⟨b :: a :: L, .swap b a L, by simp [hL.1, hL.2.1, hL.2.2]⟩
  | trans _ _ ih1 ih2 =>
    intro L hL
    obtain ⟨L1, h1, h2⟩ := ih1 L hL
    obtain ⟨L2, h3, h4⟩ := ih2 L1 h2
    exact ⟨L2, h1.trans h3, h4⟩

theorem perm_sum {l l' : List Int} (h : l.Perm l') : l.sum = l'.sum := by
  induction h with
  | nil => rfl
  | cons x _ ih => simp [ih]
  | swap x y l => simp only [List.sum_cons]; omega
  | trans _ _ a b => exact a.trans b
theorem four_perm : ∀ a b c d : Fin 4, ([a.val, b.val, c.val, d.val].isPerm [0, 1, 2, 3]) = true → b ≠ a ∧ c ≠ a ∧ c ≠ b ∧ d.val = 6 - a.val - b.val - c.val := by decide +kernel
theorem perm_four : ∀ a b c : Fin 4, b ≠ a → c ≠ a → c ≠ b → ([a.val, b.val, c.val, 6 - a.val - b.val - c.val].isPerm [0, 1, 2, 3]) = true := by decide +kernel

/-- each pairing of the four is a row -/
theorem pairing_row {F : Nat → Nat → Int} {L : List (Nat × Nat)} (h : Pr [0, 1, 2, 3] [0, 1, 2, 3] L) : ∃ a b c : Nat, a < 4 ∧ b < 4 ∧ c < 4 ∧ b ≠ a ∧ c ≠ a ∧ c ≠ b ∧ (L.map fun p => F p.1 p.2).sum = F 0 a + F 1 b + F 2 c + F 3 (6 - a - b - c) := by
  obtain ⟨L', h1, h2⟩ := perm_lift h.fst L rfl
  have h3 : (L'.map (·.2)).Perm [0, 1, 2, 3] := (h1.map _).symm.trans h.snd
  match L', h2, h3, h1 with
  | [(_, a), (_, b), (_, c), (_, d)], h2, h3, h1 =>
    simp only [List.map_cons, List.map_nil, List.cons.injEq, and_true] at h2 h3
    obtain ⟨rfl, rfl, rfl, rfl⟩ := h2
    have lt : ∀ x ∈ [a, b, c, d], x < 4 := fun x hx => by
      have := h3.subset hx
      simp at this; omega
    have ha := lt a (by simp)
    have hb := lt b (by simp)
    have hc := lt c (by simp)
    have hd := lt d (by simp)
    obtain ⟨q1, q2, q3, q4⟩ := four_perm ⟨a, ha⟩ ⟨b, hb⟩ ⟨c, hc⟩ ⟨d, hd⟩ (List.isPerm_iff.mpr h3)
    refine ⟨a, b, c, ha, hb, hc, fun e => q1 (Fin.ext e), fun e => q2 (Fin.ext e), fun e => q3 (Fin.ext e), ?_⟩
    have hs := (h1.map fun p => F p.1 p.2)
    rw [perm_sum hs]
    simp only [List.map_cons, List.map_nil, List.sum_cons, List.sum_nil]
    have : d = 6 - a - b - c := q4
    subst this
    omega
/-- each row is a pairing of the four -/
theorem row_pairing {a b c : Nat} (ha : a < 4) (hb : b < 4) (hc : c < 4) (h1 : b ≠ a) (h2 : c ≠ a) (h3 : c ≠ b) : Pr [0, 1, 2, 3] [0, 1, 2, 3] [(0, a), (1, b), (2, c), (3, 6 - a - b - c)] :=
  ⟨.refl _, List.isPerm_iff.mp (perm_four ⟨a, ha⟩ ⟨b, hb⟩ ⟨c, hc⟩ (fun e => h1 (congrArg Fin.val e)) (fun e => h2 (congrArg Fin.val e)) (fun e => h3 (congrArg Fin.val e)))⟩
end Mine
open PySem PySem.W PySem.Calls PyProof.Rows
namespace Mine
set_option maxRecDepth 100000 in
set_option maxHeartbeats 8000000 in
open_top hd for PySem.Challenge.rw_xp0014_01
end Mine
namespace Mine

/-! heap sizes never shrink -/
theorem push_size (h : Heap) (o : Obj) : (h.push o).objs.size = h.objs.size + 1 := Heap.size_push ..
theorem upd_size (h : Heap) (a : Addr) (f : Obj → Obj) : (h.update a f).objs.size = h.objs.size := (Heap.SameBut.update h a f).1

theorem runs_size {M : Model} {Γ : Ctx} {p : Pos} {t : Sem Fin} {fs : List Frame} {s s' : Shared} {e : End} (h : Runs M Γ p t fs s e s') : s.heap.objs.size ≤ s'.heap.objs.size := by
  induction h <;> (try simp only [Shared.setGen, push_size, upd_size] at *) <;> omega

theorem returns_size {M : Model} {Γ : Ctx} {p : Pos} {s s' : Shared} {r : Result} (h : Returns M Γ p s r s') : s.heap.objs.size ≤ s'.heap.objs.size := runs_size h

theorem wakes_size {M : Model} {Γ : Ctx} {p : Pos} {g : Nat} {r : Resume} {s s' : Shared} {res : GenResult} (h : Wakes M Γ p g r s res s') : s.heap.objs.size ≤ s'.heap.objs.size := by
  unfold Wakes at h
  split at h
  · exact h.elim
  · split at h
    · obtain ⟨e₁, s₁, hr, _, _, rfl⟩ := h; exact (runs_size hr : (s.setGen g .running).heap.objs.size ≤ s₁.heap.objs.size)
    · rw [h.2]; exact Nat.le_refl _
    · rw [h.2]; exact Nat.le_refl _
  · obtain ⟨e₁, s₁, hr, _, _, rfl⟩ := h; exact (runs_size hr : (s.setGen g .running).heap.objs.size ≤ s₁.heap.objs.size)
  · rw [h.2]; exact Nat.le_refl _
  · rw [h.2]; exact Nat.le_refl _

theorem wp_size {α : Type} (M : Model) (Γ : Ctx) (n : Nat) (t : Sem α) : ∀ (Q : α → Pos → Shared → Prop) (E : Value → Pos → Shared → Prop) (p : Pos) (s : Shared), n ≤ s.heap.objs.size → Sem.wp M Γ t Q E p s →
    Sem.wp M Γ t (fun a p' s' => n ≤ s'.heap.objs.size ∧ Q a p' s') (fun e p' s' => n ≤ s'.heap.objs.size ∧ E e p' s') p s := by
  induction t with
  | pure a => intro Q E p s hn h; exact ⟨hn, h⟩
  | raise e => intro Q E p s hn h; exact ⟨hn, h⟩
  | unsupported _ => intro Q E p s _ h; exact h
  | finish _ => intro Q E p s _ h; exact h
  | rule _ k ih => intro Q E p s hn h; exact ih () Q E p s hn h
  | «at» p' k ih => intro Q E p s hn h; exact ih () Q E p' s hn h
  | load a _ k ih => intro Q E p s hn h; obtain ⟨o, ho, h⟩ := h; exact ⟨o, ho, ih o Q E p s hn h⟩
  | update a _ f k ih => intro Q E p s hn h; exact ⟨h.1, ih () Q E p _ (by show n ≤ (s.heap.update a f).objs.size; rw [upd_size]; exact hn) h.2⟩
  | loadIfAlive a k ih => intro Q E p s hn h; exact ih _ Q E p s hn h
  | point _ k ih => intro Q E p s hn h; exact ih () Q E p s hn h
  | register _ _ => intro Q E p s _ h; exact h
  | alloc o k ih => intro Q E p s hn h; exact ih _ Q E p _ (by show n ≤ (s.heap.push o).objs.size; rw [push_size]; omega) h
  | fresh k ih => intro Q E p s hn h; exact ih _ Q E p _ hn h
  | ask k ih => intro Q E p s hn h; exact ih _ Q E p s hn h
  | choose src m k ih => intro Q E p s hn h; exact ⟨h.1, ih _ Q E p _ hn h.2⟩
  | os q _ k ih => intro Q E p s hn h; exact ih _ Q E p _ hn h
  | call c hd _ _ k ih => intro Q E p s hn h; obtain ⟨r, s', hr, h⟩ := h; exact ⟨r, s', hr, ih r Q E p s' (Nat.le_trans hn (returns_size hr)) h⟩
  | handled own k ih => intro Q E p s hn h; exact ih _ Q E p s hn h
  | genState g k ih => intro Q E p s hn h; obtain ⟨st, hs, h⟩ := h; exact ⟨st, hs, ih _ Q E p s hn h⟩
  | newGen c k ih => intro Q E p s hn h; exact ih _ Q E p _ hn h
  | resume g r _ k ih => intro Q E p s hn h; obtain ⟨res, s', hw, h⟩ := h; exact ⟨res, s', hw, ih res Q E p s' (Nat.le_trans hn (wakes_size hw)) h⟩
  | yield _ _ _ _ => intro Q E p s _ h; exact h
  | stack k ih => intro Q E p s hn h; exact ih _ Q E p s hn h
  | fork _ _ => intro Q E p s _ h; exact h
  | thread k ih => intro Q E p s hn h; exact ih _ Q E p s hn h
  | await _ _ _ _ _ => intro Q E p s _ h; exact h

section
variable {α : Type} {M : Model} {A : Around} {s : Shared}
theorem wpAny_size {t : Sem α} {Q : α → Shared → Prop} {E : Value → Shared → Prop} (h : wpAny M A t Q E s) :
    wpAny M A t (fun a s' => s.heap.objs.size ≤ s'.heap.objs.size ∧ Q a s') (fun e s' => s.heap.objs.size ≤ s'.heap.objs.size ∧ E e s') s :=
  fun Γ p hΓ => wp_size M Γ _ t _ _ p s (Nat.le_refl _) (h Γ p hΓ)
theorem wpAny_withsize {t : Sem α} {Q : α → Shared → Prop} {E : Value → Shared → Prop}
    (h : wpAny M A t (fun a s' => s.heap.objs.size ≤ s'.heap.objs.size → Q a s') E s) : wpAny M A t Q E s :=
  wpAny_mono (wpAny_size h) (fun _ _ x => x.2 x.1) (fun _ _ x => x.2)
end

/-! data -/
inductive D where
  | none
  | bool (b : Bool)
  | int (i : Int)
  | str (x : Str)
  | list (ds : List D)
  | tup (ds : List D)
  | dict (kds : List (Str × D))
  | inst (d : D)
  | glob (v : Value)

section
variable (prog : Program) (w : World)

noncomputable abbrev CLS : Addr := 88

mutual
inductive Rep (X : Addr → Prop) (h : Heap) : Value → D → Prop
  | none : Rep X h .none .none
  | bool (b : Bool) : Rep X h (.bool b) (.bool b)
  | int (i : Int) (t : Tok) : Rep X h (.int i t) (.int i)
  | str (x : Str) (t : Tok) : Rep X h (.str x t) (.str x)
  | list {a : Addr} {vs : List Value} {n : Nat} {ds : List D} : h.get? a = some { cls := .type "list", data := .seq vs.toArray n } → ¬ X a → RepL X h vs ds → Rep X h (.ref a) (.list ds)
  | tup {a : Addr} {vs : List Value} {n : Nat} {ds : List D} : h.get? a = some { cls := .type "tuple", data := .seq vs.toArray n } → ¬ X a → RepL X h vs ds → Rep X h (.ref a) (.tup ds)
  | dict {a : Addr} {ep : Nat} {kvs : List (Str × Value)} {kds : List (Str × D)} : h.DictAt (strKind prog w) a kvs ep → ¬ X a → (a == sysModules) = false → RepK X h kvs kds → Rep X h (.ref a) (.dict kds)
  | inst {a dx : Addr} {es : List DictEntry} {n : Nat} {v : Value} {d : D} : h.get? a = some (instObj CLS dx) → h.get? dx = some (dictOf es n) → ¬ X a → ¬ X dx →
      getL "comp_select_list" es = some (some v) → getL "compare" es = some Option.none → Rep X h v d → Rep X h (.ref a) (.inst d)
  | glob (v : Value) : Rep X h v (.glob v)
inductive RepL (X : Addr → Prop) (h : Heap) : List Value → List D → Prop
  | nil : RepL X h [] []
  | cons {v : Value} {vs : List Value} {d : D} {ds : List D} : Rep X h v d → RepL X h vs ds → RepL X h (v :: vs) (d :: ds)
inductive RepK (X : Addr → Prop) (h : Heap) : List (Str × Value) → List (Str × D) → Prop
  | nil : RepK X h [] []
  | cons {k : Str} {v : Value} {vs : List (Str × Value)} {d : D} {ds : List (Str × D)} : Rep X h v d → RepK X h vs ds → RepK X h ((k, v) :: vs) ((k, d) :: ds)
end
end
end Mine
namespace Mine

section
variable {prog : Program} {w : World} {X X' : Addr → Prop} {h h' : Heap}

mutual
theorem Rep.move (k : ∀ b o, ¬ X b → h.get? b = some o → h'.get? b = some o ∧ ¬ X' b) : ∀ {v : Value} {d : D}, Rep prog w X h v d → Rep prog w X' h' v d
  | _, _, .none => .none
  | _, _, .bool b => .bool b
  | _, _, .int i t => .int i t
  | _, _, .str x t => .str x t
  | _, _, .list e x r => .list (k _ _ x e).1 (k _ _ x e).2 (RepL.move k r)
  | _, _, .tup e x r => .tup (k _ _ x e).1 (k _ _ x e).2 (RepL.move k r)
  | _, _, .dict e x y r => .dict (let ⟨o, es, ho, q⟩ := e; ⟨o, es, (k _ _ x ho).1, q⟩) (let ⟨o, es, ho, q⟩ := e; (k _ _ x ho).2) y (RepK.move k r)
  | _, _, .inst e1 e2 x y n n' r => .inst (k _ _ x e1).1 (k _ _ y e2).1 (k _ _ x e1).2 (k _ _ y e2).2 n n' (Rep.move k r)
  | _, _, .glob v => .glob v
theorem RepL.move (k : ∀ b o, ¬ X b → h.get? b = some o → h'.get? b = some o ∧ ¬ X' b) : ∀ {vs : List Value} {ds : List D}, RepL prog w X h vs ds → RepL prog w X' h' vs ds
  | _, _, .nil => .nil
  | _, _, .cons a r => .cons (Rep.move k a) (RepL.move k r)
theorem RepK.move (k : ∀ b o, ¬ X b → h.get? b = some o → h'.get? b = some o ∧ ¬ X' b) : ∀ {vs : List (Str × Value)} {ds : List (Str × D)}, RepK prog w X h vs ds → RepK prog w X' h' vs ds
  | _, _, .nil => .nil
  | _, _, .cons a r => .cons (Rep.move k a) (RepK.move k r)
end

/-- what is left to show of a value that stands for `d` -/
noncomputable def RE (prog : Program) (w : World) (X : Addr → Prop) (h : Heap) (P : Value → Prop) : D → Prop
  | .none => P .none
  | .bool b => P (.bool b)
  | .int i => ∀ t, P (.int i t)
  | .str x => ∀ t, P (.str x t)
  | .list ds => ∀ a vs n, h.get? a = some { cls := .type "list", data := .seq vs.toArray n } → ¬ X a → RepL prog w X h vs ds → P (.ref a)
  | .tup ds => ∀ a vs n, h.get? a = some { cls := .type "tuple", data := .seq vs.toArray n } → ¬ X a → RepL prog w X h vs ds → P (.ref a)
  | .dict kds => ∀ a ep kvs, h.DictAt (strKind prog w) a kvs ep → ¬ X a → (a == sysModules) = false → RepK prog w X h kvs kds → P (.ref a)
  | .inst d => ∀ a dx es n v, h.get? a = some (instObj CLS dx) → h.get? dx = some (dictOf es n) → ¬ X a → ¬ X dx → getL "comp_select_list" es = some (some v) → getL "compare" es = some Option.none → Rep prog w X h v d → P (.ref a)
  | .glob u => P u
@[elab_as_elim] theorem Rep.el {P : Value → Prop} {v : Value} {d : D} : Rep prog w X h v d → RE prog w X h P d → P v
  | .none, k => k
  | .bool _, k => k
  | .int _ _, k => k _
  | .str _ _, k => k _
  | .list a b c, k => k _ _ _ a b c
  | .tup a b c, k => k _ _ _ a b c
  | .dict a b c d, k => k _ _ _ a b c d
  | .inst a b c d e f g, k => k _ _ _ _ _ a b c d e f g
  | .glob _, k => k
@[elab_as_elim] theorem Rep.eg {P : Value → Prop} {v u : Value} (r : Rep prog w X h v (.glob u)) (k : P u) : P v := r.el k
@[elab_as_elim] theorem Rep.eb {P : Value → Prop} {v : Value} {b : Bool} (r : Rep prog w X h v (.bool b)) (k : P (.bool b)) : P v := r.el k
@[elab_as_elim] theorem Rep.en {P : Value → Prop} {v : Value} (r : Rep prog w X h v .none) (k : P .none) : P v := r.el k
@[elab_as_elim] theorem RepL.e0 {P : List Value → Prop} {vs : List Value} : RepL prog w X h vs [] → P [] → P vs
  | .nil, k => k
@[elab_as_elim] theorem RepL.ec {P : List Value → Prop} {vs : List Value} {d : D} {ds : List D} : RepL prog w X h vs (d :: ds) → (∀ v us, Rep prog w X h v d → RepL prog w X h us ds → P (v :: us)) → P vs
  | .cons a b, k => k _ _ a b
@[elab_as_elim] theorem RepK.ec {P : List (Str × Value) → Prop} {vs : List (Str × Value)} {k : Str} {d : D} {ds : List (Str × D)} : RepK prog w X h vs ((k, d) :: ds) → (∀ v us, Rep prog w X h v d → RepK prog w X h us ds → P ((k, v) :: us)) → P vs
  | .cons a b, k => k _ _ a b
@[elab_as_elim] theorem RepL.e1 {P : List Value → Prop} {vs : List Value} {d : D} (r : RepL prog w X h vs [d]) (k : ∀ v, Rep prog w X h v d → P [v]) : P vs := r.ec fun v _ a q => q.e0 (P := fun us => P (v :: us)) (k v a)
@[elab_as_elim] theorem RepL.e2 {P : List Value → Prop} {vs : List Value} {d e : D} (r : RepL prog w X h vs [d, e]) (k : ∀ v u, Rep prog w X h v d → Rep prog w X h u e → P [v, u]) : P vs := r.ec fun v _ a q => q.e1 (P := fun us => P (v :: us)) fun u b => k v u a b

theorem RepL.length : ∀ {vs : List Value} {ds : List D}, RepL prog w X h vs ds → vs.length = ds.length
  | _, _, .nil => rfl
  | _, _, .cons _ r => by simp [RepL.length r]
theorem RepL.append : ∀ {vs us : List Value} {ds es : List D}, RepL prog w X h vs ds → RepL prog w X h us es → RepL prog w X h (vs ++ us) (ds ++ es)
  | _, _, _, _, .nil, r => r
  | _, _, _, _, .cons a q, r => .cons a (RepL.append q r)
theorem RepL.get : ∀ {vs : List Value} {ds : List D} (i : Nat) (d : D), RepL prog w X h vs ds → ds[i]? = some d → ∃ v, vs[i]? = some v ∧ Rep prog w X h v d
  | _, _, _, _, .nil, e => by simp at e
  | _, _, 0, _, .cons a _, e => by simp at e; subst e; exact ⟨_, rfl, a⟩
  | _, _, i + 1, _, .cons _ r, e => by simp at e; obtain ⟨v, h1, h2⟩ := RepL.get i _ r e; exact ⟨v, by simpa using h1, h2⟩
theorem RepL.take : ∀ {vs : List Value} {ds : List D} (i : Nat), RepL prog w X h vs ds → RepL prog w X h (vs.take i) (ds.take i)
  | _, _, 0, _ => by simp; exact .nil
  | _, _, _ + 1, .nil => by simp; exact .nil
  | _, _, i + 1, .cons a r => by simp; exact .cons a (RepL.take i r)
theorem RepL.drop : ∀ {vs : List Value} {ds : List D} (i : Nat), RepL prog w X h vs ds → RepL prog w X h (vs.drop i) (ds.drop i)
  | _, _, 0, r => by simpa using r
  | _, _, _ + 1, .nil => by simp; exact .nil
  | _, _, i + 1, .cons _ r => by simpa using RepL.drop i r
theorem RepL.of_get {vs : List Value} {ds : List D} (hl : vs.length = ds.length) (hg : ∀ (i : Nat) v d, vs[i]? = some v → ds[i]? = some d → Rep prog w X h v d) : RepL prog w X h vs ds := by
  induction vs generalizing ds with
  | nil => cases ds with
    | nil => exact .nil
    | cons => simp at hl
  | cons v vs ih => cases ds with
    | nil => simp at hl
    | cons d ds => exact .cons (hg 0 v d rfl rfl) (ih (by simpa using hl) fun i v d h1 h2 => hg (i + 1) v d (by simpa using h1) (by simpa using h2))
end

/-! states -/
structure Ext (M : Addr → Prop) (s s' : Shared) : Prop where
  keep : ∀ b o, ¬ M b → s.heap.get? b = some o → s'.heap.get? b = some o
  size : s.heap.objs.size ≤ s'.heap.objs.size
  os : s'.os = s.os
  gens : AllBare s.gens → AllBare s'.gens

noncomputable abbrev No : Addr → Prop := fun _ => False

section
variable {M M' : Addr → Prop} {s s₁ s₂ s₃ : Shared}
theorem Ext.refl (M : Addr → Prop) (s : Shared) : Ext M s s := ⟨fun _ _ _ e => e, Nat.le_refl _, rfl, fun e => e⟩
theorem Ext.trans (x : Ext M s s₁) (y : Ext M s₁ s₂) : Ext M s s₂ :=
  ⟨fun b o n e => y.keep b o n (x.keep b o n e), Nat.le_trans x.size y.size, y.os.trans x.os, fun e => y.gens (x.gens e)⟩
theorem Ext.mono (x : Ext M s s₁) (k : ∀ b, b < s.heap.objs.size → M b → M' b) : Ext M' s s₁ :=
  ⟨fun b o n e => x.keep b o (fun q => n (k b (Heap.lt_size e) q)) e, x.size, x.os, x.gens⟩
theorem Ext.no (x : Ext No s s₁) : Ext M s s₁ := x.mono fun _ _ q => q.elim
theorem Ext.toks (s : Shared) (t : Nat) : Ext M s { s with toks := t } := ⟨fun _ _ _ e => e, Nat.le_refl _, rfl, fun e => e⟩
theorem Ext.all (x : Ext No s s₁) : ∀ b o, s.heap.get? b = some o → s₁.heap.get? b = some o := fun b o e => x.keep b o (fun q => q) e
theorem Ext.of {h' : Heap} {t : Nat} (k : ∀ b o, ¬ M b → s.heap.get? b = some o → h'.get? b = some o) (z : s.heap.objs.size ≤ h'.objs.size) : Ext M s { s with heap := h', toks := t } :=
  ⟨k, z, rfl, fun e => e⟩
theorem Ext.push (s : Shared) (o : Obj) (t : Nat) : Ext M s { s with heap := s.heap.push o, toks := t } :=
  .of (fun _ _ _ e => Heap.get?_push_of_some _ e) (by rw [push_size]; omega)
theorem Ext.same {a : Addr} {h' : Heap} {t : Nat} (hs : Heap.SameBut a s.heap h') : Ext (fun b => b = a) s { s with heap := h', toks := t } :=
  .of (fun b o n e => hs.extBut b o n e) (Nat.le_of_eq hs.1.symm)

theorem Rep.ext {prog : Program} {w : World} {X : Addr → Prop} {v : Value} {d : D} (r : Rep prog w X s.heap v d) (x : Ext M s s₁) (k : ∀ b, M b → X b) : Rep prog w X s₁.heap v d :=
  r.move fun b o n e => ⟨x.keep b o (fun q => n (k b q)) e, n⟩
theorem Rep.ext0 {prog : Program} {w : World} {X : Addr → Prop} {v : Value} {d : D} (r : Rep prog w X s.heap v d) (x : Ext No s s₁) : Rep prog w X s₁.heap v d := r.ext x fun _ q => q.elim
theorem RepL.ext {prog : Program} {w : World} {X : Addr → Prop} {v : List Value} {d : List D} (r : RepL prog w X s.heap v d) (x : Ext M s s₁) (k : ∀ b, M b → X b) : RepL prog w X s₁.heap v d :=
  r.move fun b o n e => ⟨x.keep b o (fun q => n (k b q)) e, n⟩
theorem RepL.ext0 {prog : Program} {w : World} {X : Addr → Prop} {v : List Value} {d : List D} (r : RepL prog w X s.heap v d) (x : Ext No s s₁) : RepL prog w X s₁.heap v d := r.ext x fun _ q => q.elim
end

/-! rooms -/
structure Room (n : Nat) (A : Around) : Prop where
  h : A.handled = none
  d : A.depth + 4 * n < 900
  u : A.units + 200 * n + 300 < 9900
theorem Room.in1 {n : Nat} {A : Around} (r : Room (n + 1) A) : Room n A.in1 := ⟨r.h, by have := r.d; simp only [Around.in1_depth]; omega, by have := r.u; simp only [Around.in1_units]; omega⟩
theorem Room.le {n m : Nat} {A : Around} (r : Room n A) (h : m ≤ n) : Room m A := ⟨r.h, by have := r.d; omega, by have := r.u; omega⟩

theorem Room.deeper {n : Nat} {A : Around} {env : Env} (r : Room (n + 1) A) : Room n (A.deeper env) := ⟨r.h, by have := r.d; simp only [Around.deeper]; omega, by have := r.u; simp only [Around.deeper]; omega⟩
theorem Room.depth {n : Nat} {A : Around} (r : Room n A) : A.depth < recursionLimit := by have := r.d; show A.depth < 1000; omega
theorem Room.units {n : Nat} {A : Around} (r : Room n A) : A.units + 64 < cLine := by have := r.u; show A.units + 64 < 9900; omega

/-! the world around -/
structure Base (K : Frag) (mg mb : Str → Option Value) (hb : Heap) : Prop where
  g : hb.Ns mainGlobals mg
  b : hb.Ns builtinsNs mb
  nolimit : hb.NoLimit
  K : K.In hb

structure Ok (hb : Heap) (s : Shared) : Prop where
  keep : ∀ b o, hb.get? b = some o → s.heap.get? b = some o
  size : hb.objs.size ≤ s.heap.objs.size
  gens : AllBare s.gens

theorem Ok.ext {hb : Heap} {M : Addr → Prop} {s s' : Shared} (o : Ok hb s) (x : Ext M s s') (k : ∀ b, M b → hb.objs.size ≤ b) : Ok hb s' :=
  ⟨fun b ob e => x.keep b ob (fun q => Nat.lt_irrefl _ (Nat.lt_of_lt_of_le (Heap.lt_size e) (k b q))) (o.keep b ob e), Nat.le_trans o.size x.size, x.gens o.gens⟩
theorem Ok.ext0 {hb : Heap} {s s' : Shared} (o : Ok hb s) (x : Ext No s s') : Ok hb s' := o.ext x fun _ q => q.elim

end Mine
namespace Mine

structure Wd where
  prog : Program
  w : World
  K : Frag
  mg : Str → Option Value
  mb : Str → Option Value
  hb : Heap
  base : Base K mg mb hb

noncomputable def NameIs (mg mb : Str → Option Value) (env : Env) (h : Heap) (x : Str) (v : Value) : Prop :=
  (env.kindOf x = some .local ∧ ∃ m, h.Ns env.locals m ∧ m x = some v) ∨
  (env.kindOf x = some .cell ∧ ∃ c, env.cells.lookup x = some c ∧ h.IsCell c (some v)) ∨
  (env.kindOf x = some .globalImplicit ∧ (mg x = some v ∨ (mg x = none ∧ mb x = some v)))

structure Frm (hb : Heap) (env : Env) (X : Addr → Prop) (h : Heap) : Prop where
  kind : env.scope.kind = .function
  glob : env.globals = mainGlobals
  blt : env.builtins = builtinsNs
  ns : ∃ m, h.Ns env.locals m
  xl : X env.locals
  lo : hb.objs.size ≤ env.locals
  cell : ∀ n c, env.cells.lookup n = some c → (∃ ov, h.IsCell c ov) ∧ X c ∧ c ≠ env.locals ∧ hb.objs.size ≤ c
  inj : ∀ n n' c, env.cells.lookup n = some c → env.cells.lookup n' = some c → n = n'

noncomputable abbrev Ro := List (Str × D)

structure EnvOk (c : Wd) (env : Env) (ρ : Ro) (X : Addr → Prop) (h : Heap) : Prop extends Frm c.hb env X h where
  val : ∀ x d, (x, d) ∈ ρ → ∃ v, NameIs c.mg c.mb env h x v ∧ Rep c.prog c.w X h v d

section
variable {c : Wd} {env : Env} {ρ ρ' : Ro} {X : Addr → Prop} {s s' : Shared}

theorem Ns_keeps {h h' : Heap} {a : Addr} {m} (n : h.Ns a m) (k : ∀ b o, h.get? b = some o → h'.get? b = some o) : h'.Ns a m := n.keeps k

theorem NameIs.ext0 {x : Str} {v : Value} (n : NameIs c.mg c.mb env s.heap x v) (e : Ext No s s') : NameIs c.mg c.mb env s'.heap x v := by
  rcases n with ⟨a, m, b, f⟩ | ⟨a, f, b, d⟩ | n
  · exact .inl ⟨a, m, b.keeps e.all, f⟩
  · exact .inr (.inl ⟨a, f, b, d.keeps e.all⟩)
  · exact .inr (.inr n)

theorem Frm.ext0 (f : Frm c.hb env X s.heap) (e : Ext No s s') : Frm c.hb env X s'.heap :=
  ⟨f.kind, f.glob, f.blt, f.ns.imp fun _ n => n.keeps e.all, f.xl, f.lo, fun n k h => let ⟨⟨ov, a⟩, b⟩ := f.cell n k h; ⟨⟨ov, a.keeps e.all⟩, b⟩, f.inj⟩

theorem EnvOk.ext0 (f : EnvOk c env ρ X s.heap) (e : Ext No s s') : EnvOk c env ρ X s'.heap :=
  ⟨f.toFrm.ext0 e, fun x d h => let ⟨v, a, b⟩ := f.val x d h; ⟨v, a.ext0 e, b.ext0 e⟩⟩
theorem EnvOk.sub (f : EnvOk c env ρ X s.heap) (k : ∀ p ∈ ρ', p ∈ ρ) : EnvOk c env ρ' X s.heap :=
  ⟨f.toFrm, fun x d h => f.val x d (k _ h)⟩
end

section
variable (c : Wd)

/-- the state and the room in which a judgement holds -/
structure St (env : Env) (ρ : Ro) (n : Nat) (A : Around) (X : Addr → Prop) (s : Shared) : Prop where
  room : Room n A
  ok : Ok c.hb s
  x : ∀ a, X a → a < s.heap.objs.size
  env : EnvOk c env ρ X s.heap

noncomputable def EvJ (env : Env) (n : Nat) (ρ : Ro) (e : Expr) (d : D) : Prop := ∀ A s X, St c env ρ n A X s →
  wpAny (model c.prog c.w) A (eval e env) (fun v s' => Ext No s s' ∧ Rep c.prog c.w X s'.heap v d) (fun _ _ => False) s
noncomputable def EvL (env : Env) (n : Nat) (ρ : Ro) (es : List Expr) (ds : List D) : Prop := ∀ A s X (pos : Pos), St c env ρ n A X s →
  wpAny (model c.prog c.w) A (spliced (backTo pos (starEach es env))) (fun vs s' => Ext No s s' ∧ RepL c.prog c.w X s'.heap vs ds) (fun _ _ => False) s
noncomputable def TestJ (env : Env) (n : Nat) (ρ : Ro) (e : Expr) (b : Bool) : Prop := ∀ A s X, St c env ρ n A X s →
  wpAny (model c.prog c.w) A (isTrue e env (eval e env)) (fun v s' => Ext No s s' ∧ v = b) (fun _ _ => False) s

structure Sv (n : Nat) (A : Around) (X : Addr → Prop) (s : Shared) : Prop where
  room : Room n A
  ok : Ok c.hb s
  x : ∀ a, X a → a < s.heap.objs.size

noncomputable def FnJ (f : Value) (n : Nat) (ds : List D) (d : D) : Prop := ∀ A s X vs, Sv c n A X s → RepL c.prog c.w X s.heap vs ds →
  wpAny (model c.prog c.w) A (call f vs) (fun v s' => Ext No s s' ∧ Rep c.prog c.w X s'.heap v d) (fun _ _ => False) s
noncomputable def BinD (n : Nat) (op : Operator) (d₁ d₂ d : D) : Prop := ∀ A s X v₁ v₂, Sv c n A X s → Rep c.prog c.w X s.heap v₁ d₁ → Rep c.prog c.w X s.heap v₂ d₂ →
  wpAny (model c.prog c.w) A (binaryOp op v₁ v₂) (fun v s' => Ext No s s' ∧ Rep c.prog c.w X s'.heap v d) (fun _ _ => False) s
noncomputable def CmpD (n : Nat) (op : CmpOp) (d₁ d₂ : D) (b : Bool) : Prop := ∀ A s X v₁ v₂, Sv c n A X s → Rep c.prog c.w X s.heap v₁ d₁ → Rep c.prog c.w X s.heap v₂ d₂ →
  wpAny (model c.prog c.w) A (compareOp op v₁ v₂) (fun v s' => Ext No s s' ∧ v = .bool b) (fun _ _ => False) s
end

section
variable {c : Wd} {env : Env} {ρ ρ' : Ro} {n : Nat} {A : Around} {X : Addr → Prop} {s s' : Shared}

theorem St.ext (t : St c env ρ n A X s) (e : Ext No s s') : St c env ρ n A X s' :=
  ⟨t.room, t.ok.ext0 e, fun a h => Nat.lt_of_lt_of_le (t.x a h) e.size, t.env.ext0 e⟩
theorem St.sv (t : St c env ρ n A X s) : Sv c n A X s := ⟨t.room, t.ok, t.x⟩
theorem Sv.ext (t : Sv c n A X s) (e : Ext No s s') : Sv c n A X s' := ⟨t.room, t.ok.ext0 e, fun a h => Nat.lt_of_lt_of_le (t.x a h) e.size⟩
theorem Sv.le {m : Nat} (t : Sv c n A X s) (h : m ≤ n) : Sv c m A X s := ⟨t.room.le h, t.ok, t.x⟩
theorem St.le {m : Nat} (t : St c env ρ n A X s) (h : m ≤ n) : St c env ρ m A X s := ⟨t.room.le h, t.ok, t.x, t.env⟩
theorem St.sub (t : St c env ρ n A X s) (k : ∀ p ∈ ρ', p ∈ ρ) : St c env ρ' n A X s := ⟨t.room, t.ok, t.x, t.env.sub k⟩

/-! plain nodes -/
theorem EvJ.name {x : Str} {d : D} {pos : Pos} (h : (x, d) ∈ ρ) (hd : (x == ("__debug__" : Str)) = false := by decide) : EvJ c env n ρ (.Name x pos) d := fun A s X t => by
  obtain ⟨v, hn, r⟩ := t.env.val x d h
  rcases hn with ⟨a, m, b, f⟩ | ⟨a, f, b, e⟩ | ⟨a, b⟩
  · exact wpAny_Name (wpAny_loadName_local t.env.kind a b f ⟨.refl .., r⟩) hd
  · exact wpAny_Name (wpAny_loadName_cell t.env.kind a b e ⟨.refl .., r⟩) hd
  · refine Name_function_global t.env.kind a ?_ hd
    have hg := c.base.g.keeps t.ok.keep
    have hbb := c.base.b.keeps t.ok.keep
    rw [← t.env.glob] at hg
    rw [← t.env.blt] at hbb
    rcases b with b | ⟨b, f⟩
    · exact loadGlobal_global hg b ⟨.refl .., r⟩
    · exact loadGlobal_builtin hg b hbb f ⟨.refl .., r⟩
theorem EvJ.int {i : Int} {k pos} : EvJ c env n ρ (.Constant (.int i) k pos) (.int i) := fun A s X t => wpAny_Constant_int ⟨.toks .., .int ..⟩
theorem EvJ.str {x : Str} {k pos} : EvJ c env n ρ (.Constant (.str x) k pos) (.str x) := fun A s X t => wpAny_Constant_str ⟨.toks .., .str ..⟩
theorem EvJ.none {k pos} : EvJ c env n ρ (.Constant .none k pos) .none := fun A s X t => wpAny_Constant_none ⟨.refl .., .none⟩
theorem EvJ.bool {b : Bool} {k pos} : EvJ c env n ρ (.Constant (.bool b) k pos) (.bool b) := fun A s X t => wpAny_Constant_bool ⟨.refl .., .bool _⟩
theorem EvJ.le {m : Nat} {e : Expr} {d : D} (h : EvJ c env m ρ e d) (hm : m ≤ n) : EvJ c env n ρ e d := fun A s X t => h A s X (t.le hm)

theorem EvL.nil : EvL c env n ρ [] [] := fun A s X pos t => wpAny_items_nil ⟨.refl .., .nil⟩
theorem EvL.cons {e : Expr} {es : List Expr} {d : D} {ds : List D} (h : EvJ c env n ρ e d) (hs : EvL c env n ρ es ds)
    (he : starEach (e :: es) env = (false, eval e env) :: starEach es env := by rfl) : EvL c env n ρ (e :: es) (d :: ds) := fun A s X pos t => by
  refine wpAny_items_cons (wpAny_mono (h A s X t) (fun v s₁ h₁ => wpAny_mono (hs A s₁ X pos (t.ext h₁.1)) (fun vs s₂ h₂ => ?_) fun _ _ f => f) fun _ _ f => f) he
  exact ⟨h₁.1.trans h₂.1, .cons (h₁.2.ext0 h₂.1) h₂.2⟩

theorem EvJ.bin {l r : Expr} {op : Operator} {pos : Pos} {d₁ d₂ d : D} (h₁ : EvJ c env n ρ l d₁) (h₂ : EvJ c env n ρ r d₂) (h : BinD c n op d₁ d₂ d) :
    EvJ c env n ρ (.BinOp l op r pos) d := fun A s X t => by
  refine wpAny_BinOp (wpAny_mono (h₁ A s X t) (fun v s₁ q₁ => wpAny_mono (h₂ A s₁ X (t.ext q₁.1)) (fun u s₂ q₂ => ?_) fun _ _ f => f) fun _ _ f => f)
  exact wpAny_mono (h A s₂ X v u ((t.ext q₁.1).ext q₂.1).sv (q₁.2.ext0 q₂.1) q₂.2) (fun a s₃ q₃ => ⟨(q₁.1.trans q₂.1).trans q₃.1, q₃.2⟩) fun _ _ f => f
theorem EvJ.cmp {l r : Expr} {op : CmpOp} {pos : Pos} {d₁ d₂ : D} {b : Bool} (h₁ : EvJ c env n ρ l d₁) (h₂ : EvJ c env n ρ r d₂) (h : CmpD c n op d₁ d₂ b)
    (hm : behindInMarks op r = false := by with_unfolding_all rfl) :
    EvJ c env n ρ (.Compare l [op] [r] pos) (.bool b) := fun A s X t => by
  refine wpAny_Compare1 (wpAny_mono (h₁ A s X t) (fun v s₁ q₁ => wpAny_mono (h₂ A s₁ X (t.ext q₁.1)) (fun u s₂ q₂ => ?_) fun _ _ f => f) fun _ _ f => f) hm
  exact wpAny_mono (h A s₂ X v u ((t.ext q₁.1).ext q₂.1).sv (q₁.2.ext0 q₂.1) q₂.2) (fun a s₃ q₃ => ⟨(q₁.1.trans q₂.1).trans q₃.1, by rw [q₃.2]; exact .bool _⟩) fun _ _ f => f

theorem EvJ.tuple {es : List Expr} {ds : List D} {k : Nat} {pos : Pos} (h : EvL c env n ρ es ds) (hz : ds.length ≤ sizeLine := by decide) : EvJ c env n ρ (.Tuple es k pos) (.tup ds) := fun A s X t => by
  refine wpAny_Tuple (wpAny_mono (h A s X pos t) (fun vs s₁ q => ⟨by rw [q.2.length]; exact hz, ?_⟩) fun _ _ f => f)
  refine ⟨q.1.trans (.push s₁ _ _), .tup (Heap.get?_push_size _ rfl) (fun q' => ?_) (q.2.ext0 (.push s₁ _ s₁.toks))⟩
  exact Nat.lt_irrefl _ (Nat.lt_of_lt_of_le (t.x _ q') q.1.size)
theorem EvJ.list {es : List Expr} {ds : List D} {pos : Pos} (h : EvL c env n ρ es ds) (hz : ds.length ≤ sizeLine := by decide) : EvJ c env n ρ (.List es pos) (.list ds) := fun A s X t => by
  refine wpAny_List (wpAny_mono (h A s X pos t) (fun vs s₁ q => ⟨by rw [q.2.length]; exact hz, ?_⟩) fun _ _ f => f)
  refine ⟨q.1.trans (.push s₁ _ _), .list (Heap.get?_push_size _ rfl) (fun q' => ?_) (q.2.ext0 (.push s₁ _ s₁.toks))⟩
  exact Nat.lt_irrefl _ (Nat.lt_of_lt_of_le (t.x _ q') q.1.size)
end
end Mine
namespace Mine
section
variable {c : Wd} {env : Env} {ρ ρ' : Ro} {n : Nat} {A : Around} {X : Addr → Prop} {s s' : Shared}

/-! ints -/
theorem bin_add {a b : Int} : BinD c n .Add (.int a) (.int b) (.int (a + b)) := fun A s X v u t r q => by
  refine r.el fun _ => q.el fun _ => ?_; exact PyProof.Rows.add_int ⟨.toks .., .int ..⟩
theorem bin_sub {a b : Int} : BinD c n .Sub (.int a) (.int b) (.int (a - b)) := fun A s X v u t r q => by
  refine r.el fun _ => q.el fun _ => ?_; exact PyProof.Rows.sub_int ⟨.toks .., .int ..⟩
theorem bin_mul {a b : Int} (h : IntMulOk a b) : BinD c n .Mult (.int a) (.int b) (.int (a * b)) := fun A s X v u t r q => by
  refine r.el fun _ => q.el fun _ => ?_; exact PyProof.Rows.mul_int ⟨.toks .., .int ..⟩ h
theorem bin_mod {a b : Int} (hb : 0 < b) : BinD c n .Mod (.int a) (.int b) (.int (a % b)) := fun A s X v u t r q => by
  refine r.el fun _ => q.el fun _ => ?_
  refine PyProof.Rows.mod_int (by omega) ⟨.toks .., ?_⟩
  rw [Int.fmod_eq_emod_of_nonneg _ (by omega)]; exact .int ..
theorem bin_div {a b : Int} (hb : 0 < b) (hs : b < 1000000) : BinD c n .FloorDiv (.int a) (.int b) (.int (a / b)) := fun A s X v u t r q => by
  refine r.el fun _ => q.el fun _ => ?_
  refine PyProof.Rows.floordiv_int (by omega) ⟨.toks .., ?_⟩ (.inl (PyProof.noPylong_small (by omega)))
  rw [Int.fdiv_eq_ediv_of_nonneg _ (by omega)]; exact .int ..
theorem EvJ.neg {e : Expr} {pos : Pos} {a : Int} (h : EvJ c env n ρ e (.int a)) : EvJ c env n ρ (.UnaryOp .USub e pos) (.int (-a)) := fun A s X t => by
  refine wpAny_UnaryOp (wpAny_mono (h A s X t) (fun v s₁ q => ?_) fun _ _ f => f)
  obtain ⟨x, r⟩ := q
  refine r.el fun _ => ?_
  exact PyProof.Rows.neg_int ⟨x.trans (.toks ..), .int ..⟩

/-! comparisons -/
theorem cmp_lt {a b : Int} : CmpD c n .Lt (.int a) (.int b) (decide (a < b)) := fun A s X v u t r q => by
  refine r.el fun _ => q.el fun _ => ?_; exact PyProof.Rows.lt_int ⟨.refl .., rfl⟩
theorem cmp_gt {a b : Int} : CmpD c n .Gt (.int a) (.int b) (decide (b < a)) := fun A s X v u t r q => by
  refine r.el fun _ => q.el fun _ => ?_; exact PyProof.Rows.gt_int ⟨.refl .., rfl⟩
theorem cmp_ge {a b : Int} : CmpD c n .GtE (.int a) (.int b) (decide (b ≤ a)) := fun A s X v u t r q => by
  refine r.el fun _ => q.el fun _ => ?_; exact PyProof.Rows.ge_int ⟨.refl .., rfl⟩
theorem cmp_eq_int {a b : Int} : CmpD c n .Eq (.int a) (.int b) (a == b) := fun A s X v u t r q => by
  refine r.el fun _ => q.el fun _ => ?_; exact PyProof.Rows.eq_int ⟨.refl .., rfl⟩
theorem cmp_ne_int {a b : Int} : CmpD c n .NotEq (.int a) (.int b) (a != b) := fun A s X v u t r q => by
  refine r.el fun _ => q.el fun _ => ?_; exact PyProof.Rows.ne_int ⟨.refl .., rfl⟩
theorem cmp_eq_str {a b : Str} : CmpD c n .Eq (.str a) (.str b) (a == b) := fun A s X v u t r q => by
  refine r.el fun _ => q.el fun _ => ?_; exact PyProof.Rows.eq_str ⟨.refl .., rfl⟩
theorem cmp_ne_str {a b : Str} : CmpD c n .NotEq (.str a) (.str b) (a != b) := fun A s X v u t r q => by
  refine r.el fun _ => q.el fun _ => ?_; exact PyProof.Rows.ne_str ⟨.refl .., rfl⟩
theorem cmp_is_none {d : D} {b : Bool} (h : ∀ X h' v, Rep c.prog c.w X h' v d → (v == Value.none) = b) : CmpD c n .Is d .none b := fun A s X v u t r q => by
  refine q.en ?_; exact PySem.is_none ⟨.refl .., by rw [h _ _ _ r]⟩

/-! texts -/
theorem bin_cat {a b : Str} (h : a.length + b.length ≤ sizeLine) : BinD c n .Add (.str a) (.str b) (.str (a ++ b)) := fun A s X v u t r q => by
  refine r.el fun _ => q.el fun _ => ?_; exact PyProof.Rows.add_str (fun t' tk => ⟨.toks .., .str ..⟩) h

/-! tests -/
theorem TestJ.val {e : Expr} {b : Bool} (h : EvJ c env n ρ e (.bool b)) (he : isTrue e env (eval e env) = (do let v ← eval e env; standAt e.pos; holding [v] (truthy v)) := by rfl) : TestJ c env n ρ e b := fun A s X t => by
  refine wpAny_isTrue_value (wpAny_mono (h A s X t) (fun v s₁ q => ?_) fun _ _ f => f) he
  obtain ⟨x, r⟩ := q
  refine r.eb ?_
  exact wpAny_truthy_bool ⟨x, rfl⟩
theorem TestJ.cmp {l r : Expr} {op : CmpOp} {pos : Pos} {d₁ d₂ : D} {b : Bool} (h₁ : EvJ c env n ρ l d₁) (h₂ : EvJ c env n ρ r d₂) (h : CmpD c n op d₁ d₂ b)
    (hm : behindInMarks op r = false := by with_unfolding_all rfl) :
    TestJ c env n ρ (.Compare l [op] [r] pos) b := fun A s X t => by
  refine wpAny_isTrue_Compare1 (wpAny_mono (h₁ A s X t) (fun v s₁ q₁ => wpAny_mono (h₂ A s₁ X (t.ext q₁.1)) (fun u s₂ q₂ => ?_) fun _ _ f => f) fun _ _ f => f) hm
  refine wpAny_mono (h A s₂ X v u ((t.ext q₁.1).ext q₂.1).sv (q₁.2.ext0 q₂.1) q₂.2) (fun a s₃ q₃ => ?_) fun _ _ f => f
  rw [q₃.2]
  exact wpAny_truthy_bool ⟨(q₁.1.trans q₂.1).trans q₃.1, rfl⟩
noncomputable def AllJ (c : Wd) (env : Env) (n : Nat) (ρ : Ro) (op : BoolOp) (es : List Expr) (b : Bool) : Prop := ∀ A s X, St c env ρ n A X s →
  wpAny (model c.prog c.w) A (allTrue op es env) (fun v s' => Ext No s s' ∧ v = b) (fun _ _ => False) s
theorem AllJ.and_nil : AllJ c env n ρ .And [] true := fun A s X t => wpAny_allTrue_And_nil ⟨.refl .., rfl⟩
theorem AllJ.or_nil : AllJ c env n ρ .Or [] false := fun A s X t => wpAny_allTrue_Or_nil ⟨.refl .., rfl⟩
theorem AllJ.and_cons {e : Expr} {es : List Expr} {a b : Bool} (h : TestJ c env n ρ e a) (hs : a = true → AllJ c env n ρ .And es b) : AllJ c env n ρ .And (e :: es) (a && b) := fun A s X t => by
  refine wpAny_allTrue_And_cons (wpAny_mono (h A s X t) (fun v s₁ q => ?_) fun _ _ f => f)
  obtain ⟨x, rfl⟩ := q
  cases v with
  | false => exact ⟨x, by simp⟩
  | true => exact wpAny_mono (hs rfl A s₁ X (t.ext x)) (fun v s₂ q => ⟨x.trans q.1, by simp [q.2]⟩) fun _ _ f => f
theorem AllJ.or_cons {e : Expr} {es : List Expr} {a b : Bool} (h : TestJ c env n ρ e a) (hs : a = false → AllJ c env n ρ .Or es b) : AllJ c env n ρ .Or (e :: es) (a || b) := fun A s X t => by
  refine wpAny_allTrue_Or_cons (wpAny_mono (h A s X t) (fun v s₁ q => ?_) fun _ _ f => f)
  obtain ⟨x, rfl⟩ := q
  cases v with
  | true => exact ⟨x, by simp⟩
  | false => exact wpAny_mono (hs rfl A s₁ X (t.ext x)) (fun v s₂ q => ⟨x.trans q.1, by simp [q.2]⟩) fun _ _ f => f
theorem TestJ.bool {op : BoolOp} {es : List Expr} {pos : Pos} {b : Bool} (h : AllJ c env n ρ op es b) : TestJ c env n ρ (.BoolOp op es pos) b := fun A s X t =>
  wpAny_isTrue_BoolOp (h A s X t)
theorem EvJ.ite {test body orelse : Expr} {pos : Pos} {b : Bool} {d : D} (h : TestJ c env n ρ test b) (h₁ : b = true → EvJ c env n ρ body d) (h₂ : b = false → EvJ c env n ρ orelse d) :
    EvJ c env n ρ (.IfExp test body orelse pos) d := fun A s X t => by
  refine wpAny_IfExp (wpAny_mono (h A s X t) (fun v s₁ q => ?_) fun _ _ f => f)
  obtain ⟨x, rfl⟩ := q
  cases v with
  | true => exact wpAny_mono (h₁ rfl A s₁ X (t.ext x)) (fun v s₂ q => ⟨x.trans q.1, q.2⟩) fun _ _ f => f
  | false => exact wpAny_mono (h₂ rfl A s₁ X (t.ext x)) (fun v s₂ q => ⟨x.trans q.1, q.2⟩) fun _ _ f => f

/-! calls -/
/-- a def of the text stands at `f` -/
structure IsDef (c : Wd) (f : Addr) : Prop where
  is : ∃ o fd, c.K.lookup f = some o ∧ o.data = .func fd

noncomputable abbrev NoStar (l : List (Bool × Sem Value)) : Prop := l = [] ∨ ∃ x r, l = (false, x) :: r
theorem evalArgs_any {M : Model} {A : Around} {E : Value → Shared → Prop} {s : Shared} {f : Value} {l : List (Bool × Sem Value)} {Q : Args → Shared → Prop}
    (hns : NoStar l)
    (h : wpAny M A (spliced l) (fun vs s' => Q ⟨vs, []⟩ s') E s) : wpAny M A (evalArgs f true l []) Q E s := by
  rcases hns with rfl | ⟨x, r, rfl⟩
  · unfold evalArgs
    show wpAny M A (spliced [] >>= _) Q E s
    refine wpAny_bind (wpAny_mono h (fun vs s' h' => ?_) fun _ _ x => x)
    refine wpAny_holding ?_
    exact wpAny_bind (wpAny_pure (wpAny_bind (wpAny_pure (wpAny_pure h'))))
  · exact evalArgs_plain h

theorem EvJ.call {f : Str} {a : Addr} {es : List Expr} {ds : List D} {d : D} {p pos : Pos} (hf : (f, D.glob (.ref a)) ∈ ρ) (hd : IsDef c a) (hs : EvL c env n ρ es ds) (h : FnJ c (.ref a) n ds d)
    (hns : NoStar (backTo pos (starEach es env)) := by first | exact .inr ⟨_, _, rfl⟩ | exact .inl rfl)
    (hn : (f == ("__debug__" : Str)) = false := by decide) : EvJ c env n ρ (.Call (.Name f p) es [] pos) d := fun A s X t => by
  refine PyProof.Rows.Call_ (wpAny_mono (EvJ.name hf hn A s X t) (fun v s₁ q => ?_) fun _ _ f => f) (by rfl)
  obtain ⟨x, r⟩ := q
  refine r.eg ?_
  obtain ⟨o, fd, ho, hfd⟩ := hd.is
  refine callWith_function (o := o) (fd := fd) (evalArgs_any hns (wpAny_mono (hs A s₁ X pos (t.ext x)) (fun vs s₂ q => ⟨⟨?_, hfd⟩, ?_⟩) fun _ _ f => f))
  · exact (((t.ok.ext0 x).ext0 q.1).keep _ _ (c.base.K _ _ ho))
  · exact wpAny_mono (h A s₂ X vs ((t.ext x).ext q.1).sv q.2) (fun v s₃ q' => ⟨(x.trans q.1).trans q'.1, q'.2⟩) fun _ _ f => f
theorem EvJ.callb {f : Str} {id : String} {es : List Expr} {ds : List D} {d : D} {p pos : Pos} (hf : (f, D.glob (.builtin id)) ∈ ρ) (hs : EvL c env n ρ es ds) (h : FnJ c (.builtin id) n ds d)
    (hns : NoStar (backTo pos (starEach es env)) := by first | exact .inr ⟨_, _, rfl⟩ | exact .inl rfl) (hpl : (backTo pos (starEach es env)).any (·.1) = false := by rfl)
    (hn : (f == ("__debug__" : Str)) = false := by decide) : EvJ c env n ρ (.Call (.Name f p) es [] pos) d := fun A s X t => by
  refine PyProof.Rows.Call_ (wpAny_mono (EvJ.name hf hn A s X t) (fun v s₁ q => ?_) fun _ _ f => f) (by rfl)
  obtain ⟨x, r⟩ := q
  refine r.eg ?_
  refine callWith_builtin hpl (evalArgs_any hns (wpAny_mono (hs A s₁ X pos (t.ext x)) (fun vs s₂ q => ?_) fun _ _ f => f))
  exact wpAny_mono (h A s₂ X vs ((t.ext x).ext q.1).sv q.2) (fun v s₃ q' => ⟨(x.trans q.1).trans q'.1, q'.2⟩) fun _ _ f => f
end
end Mine
namespace Mine

noncomputable def Loc (env : Env) (a : Addr) : Prop := a = env.locals ∨ (@LT.lt Nat _ env.locals a ∧ ∃ k, env.cells.lookup k = some a)

inductive FlowD where
  | next (ρ : Ro)
  | ret (d : D)

noncomputable def OutD (c : Wd) (env : Env) (X : Addr → Prop) (f : Flow) (s : Shared) : FlowD → Prop
  | .next ρ => f = .next ∧ EnvOk c env ρ X s.heap
  | .ret d => ∃ v, f = .ret v ∧ Rep c.prog c.w X s.heap v d

noncomputable def ExJ (c : Wd) (env : Env) (n : Nat) (ρ : Ro) (ss : List Stmt) (R : FlowD → Prop) : Prop := ∀ A s X, St c env ρ n A X s →
  wpAny (model c.prog c.w) A (execs ss env) (fun f s' => Ext (Loc env) s s' ∧ ∃ r, R r ∧ OutD c env X f s' r) (fun _ _ => False) s
noncomputable def Ex1 (c : Wd) (env : Env) (n : Nat) (ρ : Ro) (st : Stmt) (R : FlowD → Prop) : Prop := ∀ A s X, St c env ρ n A X s →
  wpAny (model c.prog c.w) A (exec st env) (fun f s' => Ext (Loc env) s s' ∧ ∃ r, R r ∧ OutD c env X f s' r) (fun _ _ => False) s

noncomputable abbrev dropN (x : Str) (ρ : Ro) : Ro := ρ.filter fun p => p.1 != x

section
variable {c : Wd} {env : Env} {ρ ρ' : Ro} {n : Nat} {A : Around} {X : Addr → Prop} {s s' : Shared} {R R' : FlowD → Prop}

theorem Frm.loc {h : Heap} (f : Frm c.hb env X h) : ∀ b, Loc env b → X b := fun b q => by
  rcases q with rfl | ⟨_, k, e⟩
  · exact f.xl
  · exact (f.cell _ _ e).2.1
theorem Frm.lo' {h : Heap} (f : Frm c.hb env X h) : ∀ b, Loc env b → c.hb.objs.size ≤ b := fun b q => by
  rcases q with rfl | ⟨_, k, e⟩
  · exact f.lo
  · exact (f.cell _ _ e).2.2.2

theorem St.move (t : St c env ρ n A X s) (e : Ext (Loc env) s s') (v : EnvOk c env ρ' X s'.heap) : St c env ρ' n A X s' :=
  ⟨t.room, t.ok.ext e t.env.toFrm.lo', fun a h => Nat.lt_of_lt_of_le (t.x a h) e.size, v⟩

theorem store_local {x : Str} {v : Value} {d : D} (t : St c env ρ n A X s) (hx : env.kindOf x = some .local) (r : Rep c.prog c.w X s.heap v d) :
    wpAny (model c.prog c.w) A (storeName env x v) (fun _ s' => Ext (fun b => b = env.locals) s s' ∧ EnvOk c env ((x, d) :: dropN x ρ) X s'.heap) (fun _ _ => False) s := by
  obtain ⟨m, hm⟩ := t.env.ns
  refine wpAny_storeName_local hx hm (fun h' hn hs => ⟨.same hs, ?_⟩) (by rw [t.env.kind]; rfl)
  have k : ∀ b o, ¬ X b → s.heap.get? b = some o → h'.get? b = some o ∧ ¬ X b := fun b o nb e => ⟨hs.extBut b o (fun q => nb (q ▸ t.env.xl)) e, nb⟩
  refine ⟨⟨t.env.kind, t.env.glob, t.env.blt, ⟨_, hn⟩, t.env.xl, t.env.lo, fun k' a e => ?_, t.env.inj⟩, fun y dy hy => ?_⟩
  · obtain ⟨⟨ov, a1⟩, a2, a3, a4⟩ := t.env.cell k' a e
    exact ⟨⟨ov, a1.sameBut hs a3⟩, a2, a3, a4⟩
  · rcases List.mem_cons.mp hy with e | hy
    · cases e
      exact ⟨v, .inl ⟨hx, _, hn, if_pos rfl⟩, r.move k⟩
    · obtain ⟨hy, hne⟩ := List.mem_filter.mp hy
      have hne : y ≠ x := by simpa using hne
      obtain ⟨u, q, r'⟩ := t.env.val y dy hy
      refine ⟨u, ?_, r'.move k⟩
      rcases q with ⟨a, m', b, e⟩ | ⟨a, f, b, e⟩ | q
      · refine .inl ⟨a, _, hn, ?_⟩
        rw [if_neg hne]
        have : m' = m := by
          obtain ⟨o, es, ep, h1, h2, h3, h4⟩ := b
          obtain ⟨o', es', ep', h1', h2', h3', h4'⟩ := hm
          rw [h1] at h1'; cases h1'; rw [h2] at h2'; cases h2'
          exact funext fun z => (h4 z).symm.trans (h4' z)
        rw [← this]; exact e
      · exact .inr (.inl ⟨a, f, b, e.sameBut hs (t.env.cell _ _ b).2.2.1⟩)
      · exact .inr (.inr q)

theorem store_cell {x : Str} {v : Value} {d : D} (t : St c env ρ n A X s) (hx : env.kindOf x = some .cell) (hc : ∃ a, env.cells.lookup x = some a ∧ @LT.lt Nat _ env.locals a) (r : Rep c.prog c.w X s.heap v d) :
    wpAny (model c.prog c.w) A (storeName env x v) (fun _ s' => Ext (Loc env) s s' ∧ EnvOk c env ((x, d) :: dropN x ρ) X s'.heap) (fun _ _ => False) s := by
  obtain ⟨a, ha, hgt⟩ := hc
  obtain ⟨⟨ov, hov⟩, hXa, hne, hlo⟩ := t.env.cell x a ha
  refine wpAny_storeName_cell t.env.kind hx ha hov (fun h' hc' hs => ⟨(Ext.same hs (t := s.toks)).mono fun b _ q => .inr ⟨q ▸ hgt, x, q ▸ ha⟩, ?_⟩)
  have k : ∀ b o, ¬ X b → s.heap.get? b = some o → h'.get? b = some o ∧ ¬ X b := fun b o nb e => ⟨hs.extBut b o (fun q => nb (q ▸ hXa)) e, nb⟩
  refine ⟨⟨t.env.kind, t.env.glob, t.env.blt, t.env.ns.imp fun _ z => z.sameBut hs (Ne.symm hne), t.env.xl, t.env.lo, fun k' a' e => ?_, t.env.inj⟩, fun y dy hy => ?_⟩
  · obtain ⟨⟨ov', a1⟩, a2, a3, a4⟩ := t.env.cell k' a' e
    by_cases hk : a' = a
    · subst hk; exact ⟨⟨_, hc'⟩, a2, a3, a4⟩
    · exact ⟨⟨ov', a1.sameBut hs hk⟩, a2, a3, a4⟩
  · rcases List.mem_cons.mp hy with e | hy
    · cases e
      exact ⟨v, .inr (.inl ⟨hx, a, ha, hc'⟩), r.move k⟩
    · obtain ⟨hy, hney⟩ := List.mem_filter.mp hy
      have hney : y ≠ x := by simpa using hney
      obtain ⟨u, q, r'⟩ := t.env.val y dy hy
      refine ⟨u, ?_, r'.move k⟩
      rcases q with ⟨a1, m', b, e⟩ | ⟨a1, f, b, e⟩ | q
      · exact .inl ⟨a1, m', b.sameBut hs (Ne.symm hne), e⟩
      · refine .inr (.inl ⟨a1, f, b, e.sameBut hs fun q => hney (t.env.inj y x a (q ▸ b) ha)⟩)
      · exact .inr (.inr q)

/-- a name of the frame's own -/
noncomputable def Own (env : Env) (x : Str) : Prop := env.kindOf x = some .local ∨ (env.kindOf x = some .cell ∧ ∃ a, env.cells.lookup x = some a ∧ @LT.lt Nat _ env.locals a)

theorem store_own {x : Str} {v : Value} {d : D} (t : St c env ρ n A X s) (hx : Own env x) (r : Rep c.prog c.w X s.heap v d) :
    wpAny (model c.prog c.w) A (storeName env x v) (fun _ s' => Ext (Loc env) s s' ∧ EnvOk c env ((x, d) :: dropN x ρ) X s'.heap) (fun _ _ => False) s := by
  rcases hx with hx | ⟨hx, hc⟩
  · exact wpAny_mono (store_local t hx r) (fun _ _ q => ⟨q.1.mono fun _ _ e => .inl e, q.2⟩) fun _ _ f => f
  · exact store_cell t hx hc r

theorem ExJ.nil (h : R (.next ρ)) : ExJ c env n ρ [] R := fun A s X t => wpAny_execs_nil ⟨.refl .., _, h, rfl, t.env⟩

theorem ExJ.seq {st : Stmt} {ss : List Stmt} (h : Ex1 c env n ρ st R') (hn : ∀ ρ', R' (.next ρ') → ExJ c env n ρ' ss R) (hr : ∀ d, R' (.ret d) → R (.ret d)) : ExJ c env n ρ (st :: ss) R := fun A s X t => by
  refine wpAny_execs_cons (wpAny_mono (h A s X t) (fun f s₁ q => ?_) fun _ _ f => f)
  obtain ⟨e, r, hr', ho⟩ := q
  cases r with
  | next ρ' =>
    obtain ⟨rfl, ho⟩ := ho
    exact wpAny_mono (hn ρ' hr' A s₁ X (t.move e ho)) (fun f s₂ q => ⟨e.trans q.1, q.2⟩) fun _ _ f => f
  | ret d =>
    obtain ⟨v, rfl, ho⟩ := ho
    exact ⟨e, _, hr d hr', v, rfl, ho⟩

theorem Ex1.assign {x : Str} {e : Expr} {d : D} {p pos : Pos} (h : EvJ c env n ρ e d) (hx : Own env x) (hs : swapsWith e (some (.Name x p)) pos.line env = pure false := by rfl) :
    Ex1 c env n ρ (.Assign [.Name x p] e pos) (· = .next ((x, d) :: dropN x ρ)) := fun A s X t => by
  refine wpAny_Assign_Name (wpAny_mono (h A s X t) (fun v s₁ q => ?_) fun _ _ f => f) hs
  exact wpAny_mono (store_own (t.ext q.1) hx q.2) (fun _ s₂ q' => ⟨q.1.no.trans q'.1, _, rfl, rfl, q'.2⟩) fun _ _ f => f

theorem ExJ.assign {x : Str} {e : Expr} {d : D} {p pos : Pos} {ss : List Stmt} (h : EvJ c env n ρ e d) (hx : Own env x) (hn : ExJ c env n ((x, d) :: dropN x ρ) ss R)
    (hs : swapsWith e (some (.Name x p)) pos.line env = pure false := by rfl) : ExJ c env n ρ (.Assign [.Name x p] e pos :: ss) R :=
  ExJ.seq (Ex1.assign h hx hs) (fun ρ' e => by cases e; exact hn) (fun d e => by cases e)

theorem ExJ.ret {e : Expr} {d : D} {pos : Pos} {ss : List Stmt} (h : EvJ c env n ρ e d) (hR : R (.ret d)) : ExJ c env n ρ (.Return (some e) pos :: ss) R :=
  ExJ.seq (R' := (· = .ret d)) (fun A s X t => wpAny_Return_some (wpAny_mono (h A s X t) (fun v s₁ q => ⟨q.1.no, _, rfl, v, rfl, q.2⟩) fun _ _ f => f))
    (fun ρ' e => by cases e) (fun d e => by cases e; exact hR)

theorem Ex1.if {test : Expr} {body orelse : List Stmt} {pos : Pos} {b : Bool} (h : TestJ c env n ρ test b) (h₁ : b = true → ExJ c env n ρ body R) (h₂ : b = false → ExJ c env n ρ orelse R) :
    Ex1 c env n ρ (.If test body orelse pos) R := fun A s X t => by
  refine wpAny_If (wpAny_mono (h A s X t) (fun v s₁ q => ?_) fun _ _ f => f)
  obtain ⟨x, rfl⟩ := q
  cases v with
  | true => exact wpAny_mono (h₁ rfl A s₁ X (t.ext x)) (fun v s₂ q => ⟨x.no.trans q.1, q.2⟩) fun _ _ f => f
  | false => exact wpAny_mono (h₂ rfl A s₁ X (t.ext x)) (fun v s₂ q => ⟨x.no.trans q.1, q.2⟩) fun _ _ f => f
theorem ExJ.ifret {test e : Expr} {ss : List Stmt} {pos rp : Pos} {b : Bool} {d : D} (h : TestJ c env n ρ test b) (h₁ : b = true → EvJ c env n ρ e d ∧ R (.ret d)) (h₂ : b = false → ExJ c env n ρ ss R) :
    ExJ c env n ρ (.If test [.Return (some e) rp] [] pos :: ss) R :=
  ExJ.seq (R' := fun r => (b = true ∧ r = .ret d) ∨ (b = false ∧ r = .next ρ))
    (Ex1.if h (fun q => ExJ.ret (h₁ q).1 (.inl ⟨q, rfl⟩)) (fun q => ExJ.nil (.inr ⟨q, rfl⟩)))
    (fun ρ' e => by rcases e with ⟨_, e⟩ | ⟨q, e⟩ <;> cases e; exact h₂ q) (fun d' e => by rcases e with ⟨q, e⟩ | ⟨q, e⟩ <;> cases e; exact (h₁ q).2)

theorem EvJ.sub {e : Expr} {d : D} (h : EvJ c env n ρ' e d) (k : ∀ p ∈ ρ', p ∈ ρ) : EvJ c env n ρ e d := fun A s X t => h A s X (t.sub k)
theorem ExJ.sub {ss : List Stmt} (h : ExJ c env n ρ' ss R) (k : ∀ p ∈ ρ', p ∈ ρ) : ExJ c env n ρ ss R := fun A s X t => h A s X (t.sub k)

/-! entering a def -/
structure Fenv (env : Env) (NM NO : List (Str × NameKind)) : Prop where
  names : env.scope.names = NM
  cells : ∀ x, NM.lookup x = some .cell → (env.cells.lookup x).isSome = true
  ownc : ∀ x, NO.lookup x = some .cell → ∃ a, env.cells.lookup x = some a ∧ @LT.lt Nat _ env.locals a
  plain : env.scope.kind = .function

theorem Fenv.kind {NM NO : List (Str × NameKind)} (f : Fenv env NM NO) {x : Str} {k : NameKind} (h : NM.lookup x = some k) : env.kindOf x = some k := by
  unfold Env.kindOf; rw [f.names]; exact h
theorem Fenv.own {NM NO : List (Str × NameKind)} (f : Fenv env NM NO) {x : Str} (h : NM.lookup x = some .local ∨ (NM.lookup x = some .cell ∧ NO.lookup x = some .cell)) : Own env x := by
  rcases h with h | h
  · exact .inl (f.kind h)
  · exact .inr ⟨f.kind h.1, f.ownc x h.2⟩

/-- what a global name is -/
noncomputable def Gl (c : Wd) (x : Str) (v : Value) : Prop := c.mg x = some v ∨ (c.mg x = none ∧ c.mb x = some v)

structure DefAt (c : Wd) (a : Addr) (qual : Str) (body : List Stmt) (NM : List (Str × NameKind)) (ps : List Str) : Prop where
  is : ∃ o fd cc oc vs t, c.K.lookup a = some o ∧ o.data = .func fd ∧ fd.code = .ref cc ∧ c.K.lookup cc = some oc ∧ oc.data = .fields vs ∧ vs[1]? = some (.str fd.qualname t) ∧
    fd.body = .stmts body ∧ fd.closure = [] ∧ fd.scope.names = NM ∧ fd.globals = mainGlobals ∧ fd.builtins = builtinsNs ∧
    fd.scope.isCoroutine = false ∧ fd.scope.isGenerator = false ∧ fd.scope.kind = .function ∧ (∀ vals, vals.length = ps.length → bindArgs fd ⟨vals, []⟩ = pure (ps.zip vals))
  own : ∀ x ∈ ps, NM.lookup x = some .local ∨ NM.lookup x = some .cell
  nodup : ps.Nodup
  nd : (NM.map (·.1)).Nodup

theorem cellsFrom_isSome {x : Str} (names : List (Str × NameKind)) (k : Nat) (h : names.lookup x = some .cell) : ((cellsFrom k names []).lookup x).isSome = true := cellsFrom_some names k [] (.inl h)

theorem cellsFrom_keys : ∀ (names : List (Str × NameKind)) (k : Nat) (acc : List (Str × Addr)), (∀ p ∈ names, ∀ q ∈ acc, p.1 ≠ q.1) → (names.map (·.1)).Nodup → (acc.map (·.1)).Nodup → ((cellsFrom k names acc).map (·.1)).Nodup
  | [], _, _, _, _, h => h
  | (y, kd) :: r, k, acc, hd, hn, h => by
    rw [List.map_cons, List.nodup_cons] at hn
    unfold cellsFrom
    split
    · refine cellsFrom_keys r (k + 1) ((y, k) :: acc) (fun p hp q hq => ?_) hn.2 ?_
      · rcases List.mem_cons.mp hq with rfl | hq
        · exact fun e => hn.1 (List.mem_map.mpr ⟨p, hp, e⟩)
        · exact hd p (.tail _ hp) q hq
      · rw [List.map_cons, List.nodup_cons]
        refine ⟨fun hm => ?_, h⟩
        obtain ⟨q, hq, e⟩ := List.mem_map.mp hm
        exact hd (y, kd) (.head _) q hq e.symm
    · exact cellsFrom_keys r k acc (fun p hp q hq => hd p (.tail _ hp) q hq) hn.2 h
end

theorem lookup_of_nodup {α : Type} : ∀ {l : List (Str × α)} {n : Str} {a : α}, (l.map (·.1)).Nodup → (n, a) ∈ l → l.lookup n = some a
  | (k, v) :: r, n, a, hn, h => by
    rw [List.map_cons, List.nodup_cons] at hn
    rw [List.lookup_cons]
    rcases List.mem_cons.mp h with e | h
    · cases e; simp
    · have : n ≠ k := fun e => hn.1 (List.mem_map.mpr ⟨(n, a), h, e⟩)
      simp only [beq_eq_false_iff_ne.mpr this]
      exact lookup_of_nodup hn.2 h

section
variable {c : Wd} {n : Nat}

/-- binding the parameters -/
theorem bindL_at {kindOf : Str → Option NameKind} : ∀ (binds : List (Str × Value)) (m : Str → Option Value) (x : Str) (v : Value), (binds.map (·.1)).Nodup → (x, v) ∈ binds → kindOf x = some .local → bindL kindOf binds m x = some v
  | (y, u) :: r, m, x, v, hn, h, hk => by
    rw [List.map_cons, List.nodup_cons] at hn
    unfold bindL
    rcases List.mem_cons.mp h with e | h
    · obtain ⟨rfl, rfl⟩ := Prod.mk.inj e
      rw [if_pos hk]
      have : ∀ (r : List (Str × Value)) (m : Str → Option Value), x ∉ r.map (·.1) → m x = some v → bindL kindOf r m x = some v := by
        intro r
        induction r with
        | nil => intro m _ h; exact h
        | cons p r ih =>
          intro m hx hm
          obtain ⟨z, w⟩ := p
          unfold bindL
          refine ih _ (fun q => hx (.tail _ q)) ?_
          split
          · exact (if_neg (fun e : x = z => hx (by rw [e]; exact .head _))).trans hm
          · exact hm
      exact this r _ hn.1 (by simp)
    · exact bindL_at r _ x v hn.2 h hk
theorem bindC_at {kindOf : Str → Option NameKind} : ∀ (binds : List (Str × Value)) (m : Str → Option Value) (x : Str) (v : Value), (binds.map (·.1)).Nodup → (x, v) ∈ binds → kindOf x ≠ some .local → bindC kindOf binds m x = some v
  | (y, u) :: r, m, x, v, hn, h, hk => by
    rw [List.map_cons, List.nodup_cons] at hn
    unfold bindC
    rcases List.mem_cons.mp h with e | h
    · obtain ⟨rfl, rfl⟩ := Prod.mk.inj e
      rw [if_neg hk]
      have : ∀ (r : List (Str × Value)) (m : Str → Option Value), x ∉ r.map (·.1) → m x = some v → bindC kindOf r m x = some v := by
        intro r
        induction r with
        | nil => intro m _ h; exact h
        | cons p r ih =>
          intro m hx hm
          obtain ⟨z, w⟩ := p
          unfold bindC
          refine ih _ (fun q => hx (.tail _ q)) ?_
          split
          · exact hm
          · exact (if_neg (fun e : x = z => hx (by rw [e]; exact .head _))).trans hm
      exact this r _ hn.1 (by simp)
    · exact bindC_at r _ x v hn.2 h hk

theorem RepL.mem_zip {prog : Program} {w : World} {X : Addr → Prop} {h : Heap} : ∀ {vs : List Value} {ds : List D} (ps : List Str), RepL prog w X h vs ds → ∀ x d, (x, d) ∈ ps.zip ds → ∃ v, (x, v) ∈ ps.zip vs ∧ Rep prog w X h v d
  | _, _, [], _, x, d, hm => by simp at hm
  | _, _, p :: ps, .nil, x, d, hm => by simp at hm
  | _, _, p :: ps, .cons a r, x, d, hm => by
    rw [List.zip_cons_cons] at hm ⊢
    rcases List.mem_cons.mp hm with e | hm
    · cases e; exact ⟨_, .head _, a⟩
    · obtain ⟨v, h1, h2⟩ := RepL.mem_zip ps r x d hm
      exact ⟨v, .tail _ h1, h2⟩
theorem zip_fst {α : Type} : ∀ (ps : List Str) (vs : List α), vs.length = ps.length → (ps.zip vs).map (·.1) = ps
  | [], _, _ => by simp
  | p :: ps, [], h => by simp at h
  | p :: ps, v :: vs, h => by simp [zip_fst ps vs (by simpa using h)]

end
end Mine
namespace Mine

noncomputable abbrev FF : Value → Shared → Prop := fun _ _ => False
noncomputable abbrev Un (X W : Addr → Prop) : Addr → Prop := fun b => X b ∨ W b

structure Itr (c : Wd) (n : Nat) (X : Addr → Prop) (target : Expr) (I : Addr) (W : Addr → Prop) (ds : List D) (S : Nat → Heap → Prop) : Prop where
  frame : ∀ i h h', S i h → (∀ b o, ¬ X b → h.get? b = some o → h'.get? b = some o) → S i h'
  item : ∀ A i s d, Sv c n A (Un X W) s → S i s.heap → ds[i]? = some d →
    wpAny (model c.prog c.w) A (pyNext (.ref I)) (fun r s₁ => ∃ v, r = some v ∧ Ext W s s₁ ∧
      wpAny (model c.prog c.w) A (letOwnedTupleGo target (.ref I) v) (fun _ s₂ => Ext W s₁ s₂ ∧ S (i + 1) s₂.heap ∧ Rep c.prog c.w (Un X W) s₂.heap v d) FF s₁) FF s
  done : ∀ A s, Sv c n A (Un X W) s → S ds.length s.heap → wpAny (model c.prog c.w) A (pyNext (.ref I)) (fun r s₁ => r = none ∧ Ext W s s₁) FF s
  self : ∀ A i s, Sv c n A (Un X W) s → S i s.heap → wpAny (model c.prog c.w) A (pyIter (.ref I)) (fun it s₁ => it = .ref I ∧ Ext No s s₁) FF s

noncomputable def IterJ (c : Wd) (env : Env) (n : Nat) (ρ : Ro) (e target : Expr) (ds : List D) : Prop := ∀ A s X, St c env ρ n A X s →
  wpAny (model c.prog c.w) A (eval e env) (fun v s₁ => wpAny (model c.prog c.w) A (pyIter v) (fun it s₂ => Ext No s s₂ ∧ ∃ I W, it = .ref I ∧
    (∀ b, W b → s.heap.objs.size ≤ b ∧ b < s₂.heap.objs.size) ∧ ∀ X' : Addr → Prop, (∀ b, X' b → X b ∨ s₂.heap.objs.size ≤ b) → ∃ S, S 0 s₂.heap ∧ Itr c n X' target I W ds S) FF s₁) FF s

noncomputable def AsgJ (c : Wd) (env : Env) (n : Nat) (ρ : Ro) (target : Expr) (d : D) (ρ' : Ro) : Prop := ∀ A s X v, St c env ρ n A X s → Rep c.prog c.w X s.heap v d →
  wpAny (model c.prog c.w) A (assign target env v) (fun _ s' => Ext (Loc env) s s' ∧ EnvOk c env ρ' X s'.heap) FF s

section
variable {c : Wd} {env : Env} {ρ ρ' : Ro} {n : Nat} {A : Around} {X W : Addr → Prop} {s s' : Shared} {R R' : FlowD → Prop}

theorem AsgJ.name {x : Str} {p : Pos} {d : D} (hx : Own env x) : AsgJ c env n ρ (.Name x p) d ((x, d) :: dropN x ρ) := fun A s X v t r =>
  wpAny_assign_Name (store_own t hx r)

theorem codeAny_for' {RR : Result → Shared → Prop} {target it body env} (I : Nat → Shared → Prop)
    (turn : ∀ n s, I n s → wpAny (model c.prog c.w) A (pyNext it) (fun r s₁ => match r with
      | none => RR (.ok .next) s₁
      | some v => wpAny (model c.prog c.w) A (letOwnedTupleGo target it v) (fun _ s₂ => wpAny (model c.prog c.w) A (assign target env v) (fun _ s₃ => wpAny (model c.prog c.w) A (execs body env) (fun f s₄ => match f with
          | .next | .cont => ∃ m, m < n ∧ I m s₄
          | .brk => RR (.ok .next) s₄
          | .ret v => RR (.ok (.ret v)) s₄) FF s₃) FF s₂) FF s₁) FF s)
    (n : Nat) (h : I n s) : codeAny (model c.prog c.w) A (.forLoop target it body [] env) RR s := by
  refine codeAny_loop' rfl I (fun n s hI => ?_) n h
  show wpAny _ _ ((forTurn target it body [] env).onRaise (fun x => do noteFrame x env; theTreesLotGoes x)) _ _ s
  refine wpAny_noted ?_
  simp only [forTurn]
  refine wpAny_bind (wpAny_standAt (wpAny_bind (wpAny_onRaise (wpAny_mono (turn n s hI) (fun r s₁ h₁ => ?_) fun _ _ h' => h'.elim))))
  cases r with
  | none => exact wpAny_pure (.inr ⟨rfl, codeAny_block (wpAny_execs_nil h₁)⟩)
  | some v =>
    refine wpAny_bind (wpAny_mono h₁ (fun _ s₂ h₂ => wpAny_bind (wpAny_mono h₂ (fun _ s₃ h₃ => wpAny_bind (wpAny_mono h₃ (fun f s₄ h₄ => ?_) fun _ _ h' => h'.elim)) fun _ _ h' => h'.elim)) fun _ _ h' => h'.elim)
    cases f with
    | next => exact wpAny_pure (.inl ⟨rfl, h₄⟩)
    | cont => exact wpAny_pure (.inl ⟨rfl, h₄⟩)
    | brk => exact wpAny_pure h₄
    | ret v => exact wpAny_pure h₄

theorem Rep.un {v : Value} {d : D} (r : Rep c.prog c.w X s.heap v d) (k : ∀ b, W b → s.heap.objs.size ≤ b) : Rep c.prog c.w (Un X W) s.heap v d :=
  r.move fun b o nb e => ⟨e, fun q => q.elim nb fun q => Nat.lt_irrefl _ (Nat.lt_of_lt_of_le (Heap.lt_size e) (k b q))⟩
theorem RepL.un {v : List Value} {d : List D} (r : RepL c.prog c.w X s.heap v d) (k : ∀ b, W b → s.heap.objs.size ≤ b) : RepL c.prog c.w (Un X W) s.heap v d :=
  r.move fun b o nb e => ⟨e, fun q => q.elim nb fun q => Nat.lt_irrefl _ (Nat.lt_of_lt_of_le (Heap.lt_size e) (k b q))⟩
theorem Rep.ofUn {v : Value} {d : D} {h : Heap} (r : Rep c.prog c.w (Un X W) h v d) : Rep c.prog c.w X h v d :=
  r.move fun b o nb e => ⟨e, fun q => nb (.inl q)⟩
theorem RepL.ofUn {v : List Value} {d : List D} {h : Heap} (r : RepL c.prog c.w (Un X W) h v d) : RepL c.prog c.w X h v d :=
  r.move fun b o nb e => ⟨e, fun q => nb (.inl q)⟩

theorem EnvOk.un (f : EnvOk c env ρ X s.heap) (k : ∀ b, W b → s.heap.objs.size ≤ b) : EnvOk c env ρ (Un X W) s.heap :=
  ⟨⟨f.kind, f.glob, f.blt, f.ns, .inl f.xl, f.lo, fun n a h => let ⟨a1, a2, a3⟩ := f.cell n a h; ⟨a1, .inl a2, a3⟩, f.inj⟩,
   fun x d h => let ⟨v, a, b⟩ := f.val x d h; ⟨v, a, b.un k⟩⟩
theorem EnvOk.ofUn {h : Heap} (f : EnvOk c env ρ (Un X W) h) (fr : Frm c.hb env X h) : EnvOk c env ρ X h :=
  ⟨fr, fun x d h => let ⟨v, a, b⟩ := f.val x d h; ⟨v, a, b.ofUn⟩⟩

/-- a state's loc is in X -/
structure LocX (env : Env) (X : Addr → Prop) : Prop where
  in_ : ∀ b, Loc env b → X b

/-- all that a frame may keep its names in -/
noncomputable def LocA (env : Env) (a : Addr) : Prop := a = env.locals ∨ ∃ k, env.cells.lookup k = some a
theorem Frm.locA {h : Heap} (f : Frm c.hb env X h) : ∀ b, LocA env b → X b := fun b q => by
  rcases q with rfl | ⟨k, e⟩
  · exact f.xl
  · exact (f.cell _ _ e).2.1
theorem EnvOk.back {h : Heap} (f : EnvOk c env ρ (Un X W) h) (k : ∀ b, LocA env b → X b) : EnvOk c env ρ X h :=
  f.ofUn ⟨f.kind, f.glob, f.blt, f.ns, k _ (.inl rfl), f.lo, fun n a h => let ⟨a1, a2, a3⟩ := f.cell n a h; ⟨a1, k _ (.inr ⟨n, h⟩), a3⟩, f.inj⟩

theorem NameIs.extW {x : Str} {v : Value} (f : Frm c.hb env X s.heap) (q : NameIs c.mg c.mb env s.heap x v) (e : Ext W s s') (k : ∀ b, W b → X b → False) : NameIs c.mg c.mb env s'.heap x v := by
  rcases q with ⟨a, m, ⟨o, es, ep, b1, b2⟩, m'⟩ | ⟨a, g, b, ⟨o, d1, d2⟩⟩ | q
  · exact .inl ⟨a, m, ⟨o, es, ep, e.keep _ _ (fun q => k _ q f.xl) b1, b2⟩, m'⟩
  · exact .inr (.inl ⟨a, g, b, ⟨o, e.keep _ _ (fun q => k _ q (f.cell _ _ b).2.1) d1, d2⟩⟩)
  · exact .inr (.inr q)
theorem Frm.extW (f : Frm c.hb env X s.heap) (e : Ext W s s') (k : ∀ b, W b → X b → False) : Frm c.hb env X s'.heap :=
  ⟨f.kind, f.glob, f.blt, f.ns.imp fun _ ⟨o, es, ep, b1, b2⟩ => ⟨o, es, ep, e.keep _ _ (fun q => k _ q f.xl) b1, b2⟩, f.xl, f.lo,
   fun n a h => let ⟨⟨ov, ⟨o, a1, a1'⟩⟩, a2, a3⟩ := f.cell n a h; ⟨⟨ov, ⟨o, e.keep _ _ (fun q => k _ q a2) a1, a1'⟩⟩, a2, a3⟩, f.inj⟩
/-- the environment through a step of the iterator -/
theorem EnvOk.extW (fr : Frm c.hb env X s.heap) (f : EnvOk c env ρ (Un X W) s.heap) (e : Ext W s s') (k : ∀ b, W b → X b → False) : EnvOk c env ρ (Un X W) s'.heap :=
  ⟨let g := fr.extW e k; ⟨g.kind, g.glob, g.blt, g.ns, .inl g.xl, g.lo, fun n a h => let ⟨a1, a2, a3⟩ := g.cell n a h; ⟨a1, .inl a2, a3⟩, g.inj⟩,
   fun x d h => let ⟨v, a, b⟩ := f.val x d h; ⟨v, a.extW fr e k, b.ext e fun _ q => .inr q⟩⟩

theorem Around.mark_none (A : Around) : A.mark none = A := by cases A; rfl

end
end Mine
namespace Mine
section
variable {c : Wd} {env : Env} {ρ ρ' : Ro} {n : Nat} {A : Around} {X W : Addr → Prop} {s s' : Shared} {R R' : FlowD → Prop}

theorem letGo_free {M : Model} {E : Value → Shared → Prop} {target : Expr} {I : Addr} {v : Value} {o : Obj} {t : String} {Q : Unit → Shared → Prop} (ho : s.heap.get? I = some o) (hc : o.cls = .type t)
    (ht : ["enumerate", "zip", "dict_itemiterator", "dict_reverseitemiterator", "odict_iterator", "itertools.zip_longest", "itertools.pairwise"].contains t = false) (h : Q () s) :
    wpAny M A (letOwnedTupleGo target (.ref I) v) Q E s := by
  have go : wpAny M A (do
    let (.ref r, .ref a) := (Value.ref I, v) | return
    let o ← load r
    match o.cls, o.data with
    | .type n, .fields vs =>
      if ["enumerate", "zip", "dict_itemiterator", "dict_reverseitemiterator", "odict_iterator", "itertools.zip_longest", "itertools.pairwise"].contains n && vs[0]? == some (rawInt a) then
        rule "for.unpacks-the-owned-tuple"
        updateField r 0 .none
    | _, _ => pure () : Sem Unit) Q E s := by
    cases v with
    | ref a =>
      refine wpAny_bind (wpAny_load ho ?_)
      rw [hc]
      cases hd : o.data with
      | fields vs =>
        dsimp only
        rw [ht, Bool.false_and, if_neg Bool.false_ne_true]
        exact wpAny_pure h
      | _ => exact wpAny_pure h
    | _ => exact wpAny_pure h
  cases target with
  | Tuple _ _ _ => exact go
  | List _ _ => exact go
  | _ => exact wpAny_pure h

theorem notW {I : Addr} {b : Addr} : ¬ Un X (fun b => b = I) b → b ≠ I := fun h e => h (.inr e)

/-! lists -/
noncomputable def ListS (c : Wd) (X : Addr → Prop) (I a : Addr) (vs : List Value) (k : Nat) (ds : List D) (i : Nat) (h : Heap) : Prop :=
  h.IsListIter I a i ∧ h.get? a = some { cls := .type "list", data := .seq vs.toArray k } ∧ RepL c.prog c.w (Un X (fun b => b = I)) h vs ds ∧ ¬ X I ∧ ¬ X a ∧ a ≠ I

theorem list_itr {target : Expr} {I a : Addr} {vs : List Value} {k : Nat} {ds : List D} :
    Itr c n X target I (fun b => b = I) ds (ListS c X I a vs k ds) where
  frame := fun i h h' ⟨h1, h2, h3, h4, h5, h6⟩ q => ⟨let ⟨o, a, r⟩ := h1; ⟨o, q _ _ h4 a, r⟩, q _ _ h5 h2, h3.move fun b o nb e => ⟨q _ _ (fun z => nb (.inl z)) e, nb⟩, h4, h5, h6⟩
  item := fun A i s d t ⟨h1, h2, h3, h4, h5, h6⟩ hd => by
    obtain ⟨v, hv, rv⟩ := h3.get i d hd
    refine wpAny_pyNext_list_item h1 ⟨_, h2, rfl, _, rfl⟩ (by simpa using hv) fun h' hit hs => ⟨v, rfl, .same hs, ?_⟩
    obtain ⟨o, ho, hc, hdd⟩ := id hit
    refine letGo_free ho hc (by decide) ⟨.refl .., ⟨hit, (hs.2 _ h6).trans h2, h3.move fun b o nb e => ⟨(hs.2 b (notW nb)).trans e, nb⟩, h4, h5, h6⟩, rv.move fun b o nb e => ⟨(hs.2 b (notW nb)).trans e, nb⟩⟩
  done := fun A s t ⟨h1, h2, h3, h4, h5, h6⟩ => by
    refine wpAny_withsize (wpAny_pyNext_list_end t.room.h h1 ⟨_, h2, rfl, _, rfl⟩ (by simp [h3.length]) fun h' hs z => ⟨rfl, .of (fun b o nb e => hs b o nb e) z⟩)
  self := fun A i s t ⟨h1, _⟩ => wpAny_pyIter_listiter h1 ⟨rfl, .refl ..⟩

theorem IterJ.list {e target : Expr} {ds : List D} (h : EvJ c env n ρ e (.list ds)) : IterJ c env n ρ e target ds := fun A s X t => by
  refine wpAny_mono (h A s X t) (fun v s₁ q => ?_) fun _ _ f => f.elim
  obtain ⟨e₁, r⟩ := q
  refine r.el fun a vs k ha hX rl => ?_
  refine wpAny_pyIter_list ⟨_, ha, rfl, _, rfl⟩ ⟨e₁.trans (.push ..), s₁.heap.objs.size, (fun b => b = s₁.heap.objs.size), rfl, ?_, fun X' hX' => ⟨ListS c X' s₁.heap.objs.size a vs k ds, ?_, list_itr⟩⟩
  · rintro b rfl; exact ⟨e₁.size, by show _ < (s₁.heap.push _).objs.size; rw [push_size]; exact Nat.lt_succ_self _⟩
  · have hlt := Heap.lt_size ha
    have up : ∀ b, b ≤ s₁.heap.objs.size → ¬ X b → ¬ X' b := fun b hb nx q => (hX' b q).elim nx fun q => by
      rw [push_size] at q; exact Nat.lt_irrefl _ (Nat.lt_of_lt_of_le (Nat.lt_succ_of_le hb) q)
    refine ⟨⟨_, Heap.get?_push_size _ rfl, rfl, rfl⟩, Heap.get?_push_of_some _ ha, rl.move fun b o nb e => ⟨Heap.get?_push_of_some _ e, fun q => q.elim (up b (Nat.le_of_lt (Heap.lt_size e)) nb) fun q => Nat.lt_irrefl _ (q ▸ Heap.lt_size e)⟩, up _ (Nat.le_refl _) fun q => ?_, up _ (Nat.le_of_lt hlt) hX, Nat.ne_of_lt hlt⟩
    exact Nat.lt_irrefl _ (Nat.lt_of_lt_of_le (t.x _ q) e₁.size)

/-! tuples -/
noncomputable def TupS (c : Wd) (X : Addr → Prop) (I a : Addr) (vs : List Value) (k : Nat) (ds : List D) (i : Nat) (h : Heap) : Prop :=
  IsTupIter h I a i ∧ h.get? a = some { cls := .type "tuple", data := .seq vs.toArray k } ∧ RepL c.prog c.w (Un X (fun b => b = I)) h vs ds ∧ ¬ X I ∧ ¬ X a ∧ a ≠ I

theorem tup_itr {target : Expr} {I a : Addr} {vs : List Value} {k : Nat} {ds : List D} :
    Itr c n X target I (fun b => b = I) ds (TupS c X I a vs k ds) where
  frame := fun i h h' ⟨h1, h2, h3, h4, h5, h6⟩ q => ⟨let ⟨o, a, r⟩ := h1; ⟨o, q _ _ h4 a, r⟩, q _ _ h5 h2, h3.move fun b o nb e => ⟨q _ _ (fun z => nb (.inl z)) e, nb⟩, h4, h5, h6⟩
  item := fun A i s d t ⟨h1, h2, h3, h4, h5, h6⟩ hd => by
    obtain ⟨v, hv, rv⟩ := h3.get i d hd
    refine next_tuple_item h1 ⟨_, h2, rfl, _, rfl⟩ (by simpa using hv) fun h' hit hs => ⟨v, rfl, .same hs, ?_⟩
    obtain ⟨o, ho, hc, hdd⟩ := id hit
    refine letGo_free ho hc (by decide) ⟨.refl .., ⟨hit, (hs.2 _ h6).trans h2, h3.move fun b o nb e => ⟨(hs.2 b (notW nb)).trans e, nb⟩, h4, h5, h6⟩, rv.move fun b o nb e => ⟨(hs.2 b (notW nb)).trans e, nb⟩⟩
  done := fun A s t ⟨h1, h2, h3, h4, h5, h6⟩ => by
    refine wpAny_withsize (next_tuple_end t.room.h h1 ⟨_, h2, rfl, _, rfl⟩ (by simp [h3.length]) fun h' hs z => ⟨rfl, .of (fun b o nb e => hs b o nb e) z⟩)
  self := fun A i s t ⟨h1, _⟩ => wpAny_pyIter_tupleiter h1 ⟨rfl, .refl ..⟩

theorem IterJ.tup {e target : Expr} {ds : List D} (h : EvJ c env n ρ e (.tup ds)) : IterJ c env n ρ e target ds := fun A s X t => by
  refine wpAny_mono (h A s X t) (fun v s₁ q => ?_) fun _ _ f => f.elim
  obtain ⟨e₁, r⟩ := q
  refine r.el fun a vs k ha hX rl => ?_
  refine iter_tuple ⟨_, ha, rfl, _, rfl⟩ ⟨e₁.trans (.push ..), s₁.heap.objs.size, (fun b => b = s₁.heap.objs.size), rfl, ?_, fun X' hX' => ⟨TupS c X' s₁.heap.objs.size a vs k ds, ?_, tup_itr⟩⟩
  · rintro b rfl; exact ⟨e₁.size, by show _ < (s₁.heap.push _).objs.size; rw [push_size]; exact Nat.lt_succ_self _⟩
  · have hlt := Heap.lt_size ha
    have up : ∀ b, b ≤ s₁.heap.objs.size → ¬ X b → ¬ X' b := fun b hb nx q => (hX' b q).elim nx fun q => by
      rw [push_size] at q; exact Nat.lt_irrefl _ (Nat.lt_of_lt_of_le (Nat.lt_succ_of_le hb) q)
    refine ⟨⟨_, Heap.get?_push_size _ rfl, rfl, rfl⟩, Heap.get?_push_of_some _ ha, rl.move fun b o nb e => ⟨Heap.get?_push_of_some _ e, fun q => q.elim (up b (Nat.le_of_lt (Heap.lt_size e)) nb) fun q => Nat.lt_irrefl _ (q ▸ Heap.lt_size e)⟩, up _ (Nat.le_refl _) fun q => ?_, up _ (Nat.le_of_lt hlt) hX, Nat.ne_of_lt hlt⟩
    exact Nat.lt_irrefl _ (Nat.lt_of_lt_of_le (t.x _ q) e₁.size)

/-! ranges -/
noncomputable def rng (m : Nat) : List D := (List.range m).map fun (i : Nat) => D.int (i : Int)
noncomputable def RngS (X : Addr → Prop) (I : Addr) (m i : Nat) (h : Heap) : Prop := IsRangeIter h I (i : Int) ((m : Int) - (i : Int)) 1 ∧ ¬ X I

theorem rng_itr {target : Expr} {I : Addr} {m : Nat} : Itr c n X target I (fun b => b = I) (rng m) (RngS X I m) where
  frame := fun i h h' ⟨h1, h2⟩ q => ⟨q _ _ h2 h1, h2⟩
  item := fun A i s d t ⟨h1, h2⟩ hd => by
    have hi : i < m := by have := (List.getElem?_eq_some_iff.mp hd).1; simpa [rng] using this
    have hd' : d = .int i := by simpa [rng, hi] using hd.symm
    subst hd'
    refine wpAny_pyNext_range_item h1 (by omega) fun h' hit hs => ⟨_, rfl, .same hs, ?_⟩
    refine letGo_free hit rfl (by decide) ⟨.refl .., ⟨?_, h2⟩, .int ..⟩
    have e2 : (m : Int) - ((i + 1 : Nat) : Int) = (m : Int) - (i : Int) - 1 := by push_cast; omega
    rw [e2]; exact hit
  done := fun A s t ⟨h1, h2⟩ => by
    refine wpAny_withsize (wpAny_pyNext_range_end t.room.h h1 (by simp [rng]) fun h' hs z => ⟨rfl, .of (fun b o nb e => hs b o nb e) z⟩)
  self := fun A i s t ⟨h1, _⟩ => wpAny_pyIter_rangeiter h1 ⟨rfl, .refl ..⟩

theorem IterJ.range {e target : Expr} {f : Str} {m : Nat} {p pos : Pos} (hf : (f, D.glob (.type "range")) ∈ ρ) (h : EvJ c env n ρ e (.int m)) (hm : m < 1000)
    (he : starEach [e] env = (false, eval e env) :: starEach [] env := by rfl) (hd : (f == ("__debug__" : Str)) = false := by decide) :
    IterJ c env n ρ (.Call (.Name f p) [e] [] pos) target (rng m) := fun A s X t => by
  refine PyProof.Rows.Call_ (wpAny_mono (EvJ.name hf hd A s X t) (fun v s₁ q => ?_) fun _ _ f => f.elim) (by rfl)
  obtain ⟨x, r⟩ := q
  (first | refine r.eg ?_ | refine r.eb ?_ | refine r.en ?_ | refine r.e0 ?_ | refine r.el fun _ => ?_ | cases r)
  refine PyProof.Rows.callWith_type1 ?_ he
  refine wpAny_items_cons (wpAny_mono (h A s₁ X (t.ext x)) (fun v s₂ q => wpAny_items_nil ?_) fun _ _ f => f.elim) he
  obtain ⟨e₂, r⟩ := q
  refine r.el fun tk => ?_
  refine call_range_1 ?_
  have e3 : Builtin.Range.rangeSize 0 (m : Int) 1 = m := by unfold Builtin.Range.rangeSize; simp; omega
  refine wpAny_pyIter_range (IsRange.new ..) (by unfold Builtin.Range.small; rw [e3]; simp [Builtin.Range.rangeFitsLong]; omega) ?_
  rw [e3]
  generalize hH : s₂.heap.push { cls := .type "range", data := .fields #[.int 0 s₂.toks, .int m tk, .int 1 (s₂.toks + 1)] } = H
  have hz : H.objs.size = s₂.heap.objs.size + 1 := by rw [← hH, push_size]
  have k2 : Ext No s₂ { s₂ with heap := H, toks := s₂.toks + 1 + 1 } := by rw [← hH]; exact .push ..
  have hs1 := x.size; have hs2 := e₂.size
  refine ⟨((x.trans e₂).trans k2).trans (.push ..), H.objs.size, (fun b => b = H.objs.size), rfl, ?_, fun X' hX' => ⟨RngS X' H.objs.size m, ?_, rng_itr⟩⟩
  · rintro b rfl
    refine ⟨by omega, ?_⟩
    show _ < (H.push _).objs.size
    rw [push_size]; exact Nat.lt_succ_self _
  · refine ⟨Heap.get?_push_size _ rfl, fun q => ?_⟩
    rcases hX' _ q with q | q
    · have h5 : H.objs.size < s.heap.objs.size := t.x _ q
      omega
    · rw [push_size] at q; exact Nat.lt_irrefl _ q

/-! unpacking -/
noncomputable def StoresJ (c : Wd) (env : Env) (n : Nat) (ρ : Ro) (ts : List Expr) (ds : List D) (ρ' : Ro) : Prop := ∀ A s X vs, St c env ρ n A X s → RepL c.prog c.w X s.heap vs ds →
  wpAny (model c.prog c.w) A (assignInOrder ((assignEach ts env).map (·.2)) vs) (fun _ s' => Ext (Loc env) s s' ∧ EnvOk c env ρ' X s'.heap) FF s
theorem StoresJ.nil : StoresJ c env n ρ [] [] ρ := fun A s X vs t r => by
  exact assignInOrder_nil ⟨.refl .., t.env⟩
theorem StoresJ.cons {x : Str} {p : Pos} {d : D} {ts : List Expr} {ds : List D} (hx : Own env x) (h : StoresJ c env n ((x, d) :: dropN x ρ) ts ds ρ') : StoresJ c env n ρ (.Name x p :: ts) (d :: ds) ρ' := fun A s X vs t r => by
  refine r.ec fun _ _ a r => ?_
  show wpAny _ A (assignInOrder ((assign (.Name x p) env) :: (assignEach ts env).map (·.2)) _) _ _ s
  refine assignInOrder_cons (wpAny_mono (AsgJ.name hx A s X _ t a) (fun _ s₁ q => ?_) fun _ _ f => f.elim)
  exact wpAny_mono (h A s₁ X _ (t.move q.1 q.2) (r.ext q.1 t.env.toFrm.loc)) (fun _ s₂ q' => ⟨q.1.trans q'.1, q'.2⟩) fun _ _ f => f.elim
theorem AsgJ.tup {ts : List Expr} {ds : List D} {k : Nat} {pos : Pos} (h : StoresJ c env n ρ ts ds ρ') (hn : (assignEach ts env).length = ds.length := by rfl) (hstar : (assignEach ts env).findIdx? (·.1) = none := by rfl) :
    AsgJ c env n ρ (.Tuple ts k pos) (.tup ds) ρ' := fun A s X v t r => by
  refine r.el fun a vs k' ha hX rl => ?_
  show wpAny _ A (assign (.Tuple ts k pos) env (.ref a)) _ _ s
  rw [assign_Tuple]
  refine wpAny_bind (wpAny_standAt ?_)
  unfold unpack
  have hl : (assignEach ts env).length = vs.toArray.size := by simp [hn, rl.length]
  rw [hl, hstar]
  refine wpAny_bind (wpAny_holding (wpAny_withsize (unpackItems_tuple t.room.h ⟨_, ha, rfl, _, rfl⟩ fun h' hs z => ?_)))
  have e₁ : Ext No s { s with heap := h' } := .of (fun b o _ e => hs b o (Nat.ne_of_lt (Heap.lt_size e)) e) z
  exact wpAny_mono (h A _ X vs (t.ext e₁) (rl.ext0 e₁)) (fun _ s₂ q' => ⟨e₁.no.trans q'.1, q'.2⟩) fun _ _ f => f.elim
end
end Mine
namespace Mine

/-- one turn of a comprehension, its emit handed in -/
noncomputable def turnT (gens : List Comprehension) (emit : Sem Unit) (e : Expr) (depth : Nat) (it acc : Value) (env : Env) : Sem Fin := do
  let some g := gens[depth]? | unsupported "internal:comprehension-depth"
  standAt (if g.is_async != 0 then e.pos else g.iter.pos)
  match ← if g.is_async != 0 then asyncNext it else pyNext it with
  | none => pure (.done .next)
  | some v =>
    letOwnedTupleGo g.target it v
    assign g.target env v
    let mut ok := true
    for c in g.ifs do
      if ok then ok ← isTrue c env (eval c env)
    if ok then
      match gens[depth + 1]? with
      | some g' =>
        let x ← eval g'.iter env
        standAt g'.iter.pos
        let x ← if g'.is_async != 0 then foldedIterable g'.iter x else foldedSetIterable g'.iter env x
        let _ ← runOwn (.compStart e (depth + 1) (← holding [x] (if g'.is_async != 0 then asyncIter x else pyIter x)) acc env) env
      | none => emit
    again (.compLoop e depth it acc env)

theorem turn_list (elt : Expr) (gens : List Comprehension) (scope : Scope) (pos : Pos) (depth : Nat) (it acc : Value) (env : Env) :
    compTurn (.ListComp elt gens scope pos) depth it acc env = turnT gens (do let _ ← call (.builtin "list.append") [acc, ← eval elt env]) (.ListComp elt gens scope pos) depth it acc env := by rfl
theorem turn_dict (kx vx : Expr) (gens : List Comprehension) (scope : Scope) (pos : Pos) (depth : Nat) (it : Value) (a : Addr) (env : Env) :
    compTurn (.DictComp kx vx gens scope pos) depth it (.ref a) env = turnT gens (do
      let kv ← eval kx env
      let vv ← holding [kv] (eval vx env)
      standAt { kx.pos with endLine := vx.pos.endLine, endCol := vx.pos.endCol }
      holding [kv, vv] (dictSet a kv vv)) (.DictComp kx vx gens scope pos) depth it (.ref a) env := by rfl

/-- what gathers the results -/
structure AccKind (c : Wd) (O : Type) where
  P : (X : Addr → Prop) → Addr → Heap → List O → Prop
  move : ∀ {X X' : Addr → Prop} {a : Addr} {h h' : Heap} {os : List O}, (∀ b o, (¬ X b ∨ b = a) → h.get? b = some o → h'.get? b = some o ∧ (¬ X b → ¬ X' b)) → P X a h os → P X' a h' os

structure CompK (c : Wd) (O : Type) (e : Expr) (gens : List Comprehension) (env : Env) where
  acc : AccKind c O
  emit : Addr → Sem Unit
  turn : ∀ depth it a, compTurn e depth it (.ref a) env = turnT gens (emit a) e depth it (.ref a) env
  clauses : clausesOf e = gens
  loop : ∀ depth it a, (model c.prog c.w).den (.compLoop e depth it (.ref a) env) = (compTurn e depth it (.ref a) env).onRaise (fun x => do noteFrame x env; theTreesLotGoes x)
  start : ∀ depth it a, (model c.prog c.w).den (.compStart e depth it (.ref a) env) = (compStart e depth it (.ref a) env).onRaise (fun x => do noteFrame x env; standAt theWindowsPlace)
  quietL : ∀ depth it a, (Code.compLoop e depth it (.ref a) env).quiet = true
  underL : ∀ (A : Around) depth it a, A.under (.compLoop e depth it (.ref a) env) = A
  underS : ∀ (A : Around) depth it a, A.under (.compStart e depth it (.ref a) env) = A

section
variable {c : Wd} {env : Env} {ρ ρ' : Ro} {n : Nat} {A : Around} {X W : Addr → Prop} {s s' : Shared} {O : Type} {e : Expr} {gens : List Comprehension}

noncomputable def TestsJ (c : Wd) (env : Env) (n : Nat) (ρ : Ro) (ifs : List Expr) (b : Bool) : Prop := ∀ A s X, St c env ρ n A X s →
  wpAny (model c.prog c.w) A (forIn ifs true fun c r => if r = true then do let ok ← isTrue c env (eval c env); pure (ForInStep.yield ok) else pure (ForInStep.yield r)) (fun v s' => Ext No s s' ∧ v = b) FF s
theorem TestsJ.nil : TestsJ c env n ρ [] true := fun A s X t => by
  simp only [List.forIn_nil]; exact wpAny_pure ⟨.refl .., rfl⟩
theorem TestsJ.one {t : Expr} {b : Bool} (h : TestJ c env n ρ t b) : TestsJ c env n ρ [t] b := fun A s X q => by
  simp only [List.forIn_cons, List.forIn_nil, if_true]
  exact wpAny_bind (wpAny_bind (wpAny_mono (h A s X q) (fun b s' hb => wpAny_pure (wpAny_pure hb)) fun _ _ x => x))

noncomputable abbrev At (env : Env) (a : Addr) : Addr → Prop := fun b => Loc env b ∨ b = a

/-- what one accepted item does: the inner clauses, or the emit -/
noncomputable def innerT (gens : List Comprehension) (emit : Sem Unit) (e : Expr) (depth : Nat) (acc : Value) (env : Env) : Sem Unit :=
  match gens[depth + 1]? with
  | some g' => do
    let x ← eval g'.iter env
    standAt g'.iter.pos
    let x ← if g'.is_async != 0 then foldedIterable g'.iter x else foldedSetIterable g'.iter env x
    let _ ← runOwn (.compStart e (depth + 1) (← holding [x] (if g'.is_async != 0 then asyncIter x else pyIter x)) acc env) env
  | none => emit

/-- a tree that gathers `outs` -/
noncomputable def GathJ (c : Wd) (env : Env) (n : Nat) (ρ : Ro) (acc : AccKind c O) (t : Addr → Sem Unit) (outs : List O) : Prop := ∀ A s X a os, St c env ρ n A X s → X a → c.hb.objs.size ≤ a → ¬ Loc env a → acc.P X a s.heap os → os.length + outs.length ≤ sizeLine →
  wpAny (model c.prog c.w) A (t a) (fun _ s' => Ext (At env a) s s' ∧ EnvOk c env ρ X s'.heap ∧ acc.P X a s'.heap (os ++ outs)) FF s

/-- one item of a clause -/
noncomputable def ItemJ (c : Wd) (env : Env) (n : Nat) (ρ : Ro) (k : CompK c O e gens env) (g : Comprehension) (depth : Nat) (d : D) (outs : List O) : Prop :=
  ∃ ρ', AsgJ c env n ρ g.target d ρ' ∧ (∀ p ∈ ρ, p ∈ ρ') ∧ ((TestsJ c env n ρ' g.ifs true ∧ GathJ c env n ρ' k.acc (fun a => innerT gens (k.emit a) e depth (.ref a) env) outs) ∨ (TestsJ c env n ρ' g.ifs false ∧ outs = []))

theorem loop_gath {k : CompK c O e gens env} {g : Comprehension} {depth : Nat} {I : Addr} {S : Nat → Heap → Prop} {ds : List D} (f : D → List O) {R : Result → Shared → Prop}
    (hg : gens[depth]? = some g) (hasy : ∀ g ∈ gens, g.is_async = 0) (items : ∀ d ∈ ds, ItemJ c env n ρ k g depth d (f d))
    (it : Itr c n X g.target I W ds S) {a : Addr} {os : List O} (t : St c env ρ n A X s) (hXa : X a) (hloa : c.hb.objs.size ≤ a) (hla : ¬ Loc env a) (hP : k.acc.P (Un X W) a s.heap os) (hS : S 0 s.heap) (hev : EnvOk c env ρ (Un X W) s.heap)
    (hW : ∀ b, W b → c.hb.objs.size ≤ b ∧ b < s.heap.objs.size ∧ ¬ X b) (hz : os.length + (ds.map f).flatten.length ≤ sizeLine)
    (hR : ∀ s', Ext (Un (At env a) W) s s' → EnvOk c env ρ (Un X W) s'.heap → Frm c.hb env X s'.heap → k.acc.P (Un X W) a s'.heap (os ++ (ds.map f).flatten) → R (.ok .next) s') :
    codeAny (model c.prog c.w) A (.compLoop e depth (.ref I) (.ref a) env) R s := by
  have hx0 : ∀ b, Loc env b → X b := t.env.toFrm.loc
  have hxA : ∀ b, LocA env b → X b := t.env.toFrm.locA
  have hlo := t.env.toFrm.lo'
  have ha : g.is_async = 0 := hasy _ (List.mem_of_getElem? hg)
  have hWX : ∀ b, W b → X b → False := fun b q q' => (hW b q).2.2 q'
  have hAX : ∀ b, At env a b → X b := fun b q => q.elim (hx0 b) fun q => q ▸ hXa
  obtain ⟨J, hJ⟩ : ∃ J : Nat → Shared → Prop, ∀ m s', J m s' ↔ ∃ i, m = ds.length + 1 - i ∧ i ≤ ds.length ∧ Ext (Un (At env a) W) s s' ∧ Ok c.hb s' ∧ Frm c.hb env X s'.heap ∧ EnvOk c env ρ (Un X W) s'.heap ∧ S i s'.heap ∧ k.acc.P (Un X W) a s'.heap (os ++ ((ds.take i).map f).flatten) := ⟨_, fun _ _ => Iff.rfl⟩
  refine codeAny_loop (k.quietL ..) J ?_ (ds.length + 1) ((hJ _ _).mpr ⟨0, rfl, Nat.zero_le _, .refl .., t.ok, t.env.toFrm, hev, hS, by simpa using hP⟩)
  intro m s' hm
  obtain ⟨i, rfl, hi, e', ok', fr, ev, hS', hP'⟩ := (hJ m s').mp hm
  rw [k.underL, k.loop, k.turn]
  refine wpAny_noted ?_
  have xm : ∀ {s''}, Ext (Un (At env a) W) s s'' → ∀ a, Un X W a → a < s''.heap.objs.size := fun e a q => by
    rcases q with q | q
    · exact Nat.lt_of_lt_of_le (t.x a q) e.size
    · exact Nat.lt_of_lt_of_le (hW a q).2.1 e.size
  have sv : Sv c n A (Un X W) s' := ⟨t.room, ok', xm e'⟩
  unfold turnT
  rw [hg]
  dsimp only
  simp only [ha, bne_self_eq_false, Bool.false_eq_true, if_false]
  refine wpAny_bind (wpAny_standAt (wpAny_bind ?_))
  cases hd : ds[i]? with
  | none =>
    have hin : i = ds.length := by have := List.getElem?_eq_none_iff.mp hd; omega
    subst hin
    refine wpAny_mono (it.done A s' sv hS') (fun r s₃ q => ?_) fun _ _ f => f.elim
    obtain ⟨rfl, e₃⟩ := q
    have e4 := e'.trans (e₃.mono fun _ _ q => .inr q)
    refine wpAny_pure (hR s₃ e4 (EnvOk.extW fr ev e₃ hWX) (fr.extW e₃ hWX) ?_)
    rw [List.take_length] at hP'
    refine k.acc.move (fun b o q eb => ⟨e₃.keep b o (fun w => ?_) eb, fun q => q⟩) hP'
    rcases q with q | rfl
    · exact q (.inr w)
    · exact hWX _ w hXa
  | some d =>
    have hlt : i < ds.length := (List.getElem?_eq_some_iff.mp hd).1
    have hdm : d ∈ ds := List.mem_of_getElem? hd
    obtain ⟨ρ', hasg, hsub, hcase⟩ := items d hdm
    refine wpAny_mono (it.item A i s' d sv hS' hd) (fun r s₃ q => ?_) fun _ _ f => f.elim
    obtain ⟨v, rfl, e₃, q⟩ := q
    refine wpAny_bind (wpAny_mono q (fun _ s₄ q => ?_) fun _ _ f => f.elim)
    obtain ⟨e₄, hS₄, r₄⟩ := q
    have e5 : Ext W s' s₄ := e₃.trans e₄
    have e6 : Ext (Un (At env a) W) s s₄ := e'.trans (e5.mono fun _ _ q => .inr q)
    have fr₄ := fr.extW e5 hWX
    have ev₄ := EnvOk.extW fr ev e5 hWX
    have t₄ : St c env ρ n A (Un X W) s₄ := ⟨t.room, ok'.ext e5 fun b q => (hW b q).1, xm e6, ev₄⟩
    have hP₄ : k.acc.P (Un X W) a s₄.heap (os ++ ((ds.take i).map f).flatten) := k.acc.move (fun b o q eb => ⟨e5.keep b o (fun w => by
      rcases q with q | rfl
      · exact q (.inr w)
      · exact hWX _ w hXa) eb, fun q => q⟩) hP'
    refine wpAny_bind (wpAny_mono (hasg A s₄ _ v t₄ r₄) (fun _ s₅ q => ?_) fun _ _ f => f.elim)
    obtain ⟨e₅, ev₅⟩ := q
    have t₅ := t₄.move e₅ ev₅
    have hP₅ : k.acc.P (Un X W) a s₅.heap (os ++ ((ds.take i).map f).flatten) := k.acc.move (fun b o q eb => ⟨e₅.keep b o (fun w => by
      rcases q with q | rfl
      · exact q (.inl (hx0 b w))
      · exact hla w) eb, fun q => q⟩) hP₄
    have hsucc : ((ds.take (i + 1)).map f).flatten = ((ds.take i).map f).flatten ++ f d := by
      rw [List.take_add_one, hd]; simp
    have keepX : ∀ {s₇}, Ext (At env a) s₄ s₇ → ∀ b o, ¬ X b → s₄.heap.get? b = some o → s₇.heap.get? b = some o := fun e7 b o nb eb => e7.keep b o (fun q => nb (hAX b q)) eb
    have tail : ∀ s₇, Ext (At env a) s₄ s₇ → Ok c.hb s₇ → EnvOk c env ρ' (Un X W) s₇.heap → k.acc.P (Un X W) a s₇.heap (os ++ ((ds.take i).map f).flatten ++ f d) →
        ∃ m, m < ds.length + 1 - i ∧ J m s₇ := fun s₇ e7 ok7 ev7 hP7 => by
      refine ⟨ds.length + 1 - (i + 1), by omega, (hJ _ _).mpr ⟨i + 1, rfl, hlt, e6.trans (e7.mono fun _ _ q => .inl q), ok7, (ev7.back hxA).toFrm, ⟨ev7.toFrm, fun x d h => ev7.val x d (hsub _ h)⟩, it.frame _ _ _ hS₄ (keepX e7), ?_⟩⟩
      rw [hsucc, ← List.append_assoc]; exact hP7
    have e5' : Ext (At env a) s₄ s₅ := e₅.mono fun _ _ q => .inl q
    rcases hcase with ⟨ht, hgath⟩ | ⟨ht, hnil⟩
    · refine wpAny_bind (wpAny_mono (ht A s₅ _ t₅) (fun b s₆ q => ?_) fun _ _ f => f.elim)
      obtain ⟨e₆, rfl⟩ := q
      simp only [if_true]
      have t₆ := t₅.ext e₆
      have hP₆ : k.acc.P (Un X W) a s₆.heap (os ++ ((ds.take i).map f).flatten) := k.acc.move (fun b o q eb => ⟨e₆.all b o eb, fun q => q⟩) hP₅
      have hz' : (os ++ ((ds.take i).map f).flatten).length + (f d).length ≤ sizeLine := by
        have e1 : (ds.map f).flatten = ((ds.take (i + 1)).map f).flatten ++ ((ds.drop (i + 1)).map f).flatten := by
          rw [← List.flatten_append, ← List.map_append, List.take_append_drop]
        have e2 := congrArg List.length e1
        rw [hsucc] at e2
        simp only [List.length_append] at e2 ⊢
        omega
      have gg := hgath A s₆ (Un X W) a _ t₆ (.inl hXa) hloa hla hP₆ hz'
      have fin : ∀ {T : Sem Unit}, T = innerT gens (k.emit a) e depth (.ref a) env → wpAny (model c.prog c.w) A (T >>= fun _ => again (.compLoop e depth (.ref I) (.ref a) env)) (fun fin s' => match fin with
          | .done f => R (.ok f) s'
          | .again c' => c' = .compLoop e depth (.ref I) (.ref a) env ∧ ∃ m, m < ds.length + 1 - i ∧ J m s')
          (notedBy (model c.prog c.w) A env fun e s' => R (.error e) s') s₆ := by
        rintro T rfl
        refine wpAny_bind (wpAny_mono gg (fun _ s₇ q => ?_) fun _ _ f => f.elim)
        obtain ⟨e7, ev7, hP7⟩ := q
        have e8 : Ext (At env a) s₄ s₇ := (e5'.trans e₆.no).trans e7
        have ok7 : Ok c.hb s₇ := t₄.ok.ext e8 fun b q => q.elim (hlo b) fun q => q ▸ hloa
        exact wpAny_pure ⟨rfl, tail s₇ e8 ok7 ev7 hP7⟩
      cases hg' : gens[depth + 1]? with
      | none =>
        have := fin (T := k.emit a) (by unfold innerT; rw [hg'])
        exact this
      | some g' =>
        have ha' : g'.is_async = 0 := hasy _ (List.mem_of_getElem? hg')
        have hT := fin (T := innerT gens (k.emit a) e depth (.ref a) env) rfl
        unfold innerT at hT
        rw [hg'] at hT
        simp only [ha', bne_self_eq_false, Bool.false_eq_true, if_false, bind_assoc] at hT ⊢
        exact hT
    · refine wpAny_bind (wpAny_mono (ht A s₅ _ t₅) (fun b s₆ q => ?_) fun _ _ f => f.elim)
      obtain ⟨e₆, rfl⟩ := q
      simp only [Bool.false_eq_true, if_false]
      have hP₆ : k.acc.P (Un X W) a s₆.heap (os ++ ((ds.take i).map f).flatten) := k.acc.move (fun b o q eb => ⟨e₆.all b o eb, fun q => q⟩) hP₅
      refine wpAny_pure ⟨rfl, tail s₆ (e5'.trans e₆.no) (t₅.ok.ext0 e₆) (t₅.env.ext0 e₆) ?_⟩
      rw [hnil, List.append_nil]; exact hP₆

/-! lists -/
noncomputable def listAcc (c : Wd) : AccKind c D where
  P X a h os := ∃ vs k, h.get? a = some { cls := .type "list", data := .seq (List.toArray vs) k } ∧ RepL c.prog c.w X h vs os
  move := fun q ⟨vs, k, h1, h2⟩ => ⟨vs, k, (q _ _ (.inr rfl) h1).1, h2.move fun b o nb e => let ⟨x, y⟩ := q b o (.inl nb) e; ⟨x, y nb⟩⟩

noncomputable def listK (c : Wd) (elt : Expr) (gens : List Comprehension) (scope : Scope) (pos : Pos) (env : Env) : CompK c D (.ListComp elt gens scope pos) gens env where
  acc := listAcc c
  emit a := (do let _ ← call (.builtin "list.append") [.ref a, ← eval elt env])
  turn := fun depth it a => turn_list ..
  clauses := rfl
  loop := fun _ _ _ => rfl
  start := fun _ _ _ => rfl
  quietL := fun _ _ _ => rfl
  underL := fun A _ _ _ => Around.under_of_weight rfl rfl
  underS := fun A _ _ _ => Around.under_of_weight rfl rfl

theorem gath_elt {elt : Expr} {d : D} (h : EvJ c env n ρ elt d) : GathJ c env n ρ (listAcc c) (fun a => (do let _ ← call (.builtin "list.append") [.ref a, ← eval elt env] : Sem Unit)) [d] := fun A s X a os t hX hlo hl hP hz => by
  refine wpAny_bind (wpAny_mono (h A s X t) (fun v s₁ q => ?_) fun _ _ f => f.elim)
  obtain ⟨e₁, r⟩ := q
  obtain ⟨vs, k, h1, h2⟩ := hP
  refine wpAny_bind ?_
  refine wpAny_list_append_plain (items := vs.toArray) ⟨k, e₁.all _ _ h1⟩ (fun h' hl' hs => wpAny_pure ?_) (by simp [h2.length]; simp at hz; omega)
  have e₂ : Ext (fun b => b = a) s₁ { s₁ with heap := h' } := .same (t := s₁.toks) hs
  have k' : ∀ b, b = a → X b := fun b q => q ▸ hX
  obtain ⟨k'', hl'⟩ := hl'
  refine ⟨e₁.no.trans (e₂.mono fun _ _ q => .inr q), ?_, vs ++ [v], k'', ?_, ((h2.ext0 e₁).ext e₂ k').append (.cons (r.ext e₂ k') .nil)⟩
  · have ev := t.env.ext0 e₁
    have hnc : ∀ ov, ¬ s₁.heap.IsCell a ov := fun ov ⟨o, q1, q2⟩ => by rw [e₁.all _ _ h1] at q1; cases q1; (first | refine q2.eg ?_ | refine q2.eb ?_ | refine q2.en ?_ | refine q2.e0 ?_ | refine q2.el fun _ => ?_ | cases q2)
    refine ⟨⟨ev.kind, ev.glob, ev.blt, ev.ns.imp fun _ z => z.sameBut hs (fun q => hl (.inl q.symm)), ev.xl, ev.lo, fun m b e => ?_, ev.inj⟩, fun x d hx => ?_⟩
    · obtain ⟨⟨ov, a1⟩, a2⟩ := ev.cell m b e
      exact ⟨⟨ov, a1.sameBut hs fun q => hnc _ (q ▸ a1)⟩, a2⟩
    · obtain ⟨u, q, r'⟩ := ev.val x d hx
      refine ⟨u, ?_, r'.ext e₂ k'⟩
      rcases q with ⟨a1, m', b, e⟩ | ⟨a1, f, b, e⟩ | q
      · exact .inl ⟨a1, m', b.sameBut hs (fun q => hl (.inl q.symm)), e⟩
      · exact .inr (.inl ⟨a1, f, b, e.sameBut hs fun q => hnc _ (q ▸ e)⟩)
      · exact .inr (.inr q)
  · rw [hl']; simp

theorem start_gath {k : CompK c O e gens env} {g : Comprehension} {depth : Nat} {I : Addr} {a : Addr} {S : Nat → Heap → Prop} {ds : List D} {R : Result → Shared → Prop}
    (hg : gens[depth]? = some g) (ha : g.is_async = 0) (it : Itr c n X g.target I W ds S) (sv : Sv c n A (Un X W) s) (hS : S 0 s.heap)
    (h : ∀ s', Ext No s s' → codeAny (model c.prog c.w) A (.compLoop e depth (.ref I) (.ref a) env) R s') :
    codeAny (model c.prog c.w) A (.compStart e depth (.ref I) (.ref a) env) R s := by
  refine codeAny_of_tree ?_
  rw [k.underS, k.start]
  refine wpAny_notedAt ?_
  unfold compStart
  rw [k.clauses, hg]
  simp only [Option.elim, ha, bne_self_eq_false, Bool.false_eq_true, if_false]
  refine wpAny_bind (wpAny_askSetting (wpAny_ite ?_))
  split
  · exact wpAny_bind (wpAny_pure (wpAny_pure ⟨k.quietL .., h s (.refl ..)⟩))
  · refine wpAny_bind (wpAny_rule ?_)
    refine wpAny_bind (wpAny_standAt ?_)
    refine wpAny_bind (wpAny_mono (it.self A 0 s sv hS) (fun v s₁ q => ?_) fun _ _ f => f.elim)
    obtain ⟨rfl, e₁⟩ := q
    exact wpAny_pure ⟨k.quietL .., h s₁ e₁⟩

theorem gath_inner {k : CompK c O e gens env} {g : Comprehension} {depth : Nat} {ds : List D} (f : D → List O) (hg : gens[depth + 1]? = some g) (hasy : ∀ g ∈ gens, g.is_async = 0)
    (hI : IterJ c env n ρ g.iter g.target ds) (items : ∀ d ∈ ds, ItemJ c env n ρ k g (depth + 1) d (f d)) (hs : ∀ x, foldedSetIterable g.iter env x = pure x) :
    GathJ c env n ρ k.acc (fun a => innerT gens (k.emit a) e depth (.ref a) env) (ds.map f).flatten := fun A s X a os t hX hlo hl hP hz => by
  have ha : g.is_async = 0 := hasy _ (List.mem_of_getElem? hg)
  have hx0 : ∀ b, Loc env b → X b := t.env.toFrm.loc
  have hxA : ∀ b, LocA env b → X b := t.env.toFrm.locA
  dsimp only
  unfold innerT
  rw [hg]
  simp only [ha, bne_self_eq_false, Bool.false_eq_true, if_false]
  refine wpAny_bind (wpAny_mono (hI A s X t) (fun v s₁ q => ?_) fun _ _ f => f.elim)
  refine wpAny_bind (wpAny_standAt (wpAny_bind (wpAny_of_eq (hs v) (wpAny_bind (wpAny_holding (wpAny_mono q (fun it s₂ q => ?_) fun _ _ f => f.elim))))))
  obtain ⟨e₂, I, W, rfl, hW, it⟩ := q
  obtain ⟨S, hS, it⟩ := it X fun b q => .inl q
  have hWX : ∀ b, W b → X b → False := fun b q q' => Nat.lt_irrefl _ (Nat.lt_of_lt_of_le (t.x b q') (hW b q).1)
  have t₂ : St c env ρ n A X s₂ := t.ext e₂
  have eY : EnvOk c env ρ (Un X W) s₂.heap := by
    refine ⟨⟨t₂.env.kind, t₂.env.glob, t₂.env.blt, t₂.env.ns, .inl t₂.env.xl, t₂.env.lo, fun n a h => let ⟨a1, a2, a3⟩ := t₂.env.cell n a h; ⟨a1, .inl a2, a3⟩, t₂.env.inj⟩, fun x d h => ?_⟩
    obtain ⟨v, a, b⟩ := t.env.val x d h
    exact ⟨v, a.ext0 e₂, (b.un fun b q => (hW b q).1).ext0 e₂⟩
  have hP₂ : k.acc.P (Un X W) a s₂.heap os := k.acc.move (fun b o q eb => ⟨e₂.all b o eb, fun nb w => w.elim nb fun w => Nat.lt_irrefl _ (Nat.lt_of_lt_of_le (Heap.lt_size eb) (hW b w).1)⟩) hP
  have sv : Sv c n A (Un X W) s₂ := ⟨t.room, t₂.ok, fun b q => q.elim (fun q => t₂.x b q) fun q => (hW b q).2⟩
  refine wpAny_bind (wpAny_runOwn (h := none) ?_)
  rw [Around.mark_none]
  refine start_gath (k := k) hg ha it sv hS fun s₃ e₃ => ?_
  have t₃ := t₂.ext e₃
  refine loop_gath (k := k) f hg hasy items it (os := os) t₃ hX hlo hl (k.acc.move (fun b o q eb => ⟨e₃.all b o eb, fun q => q⟩) hP₂) (it.frame _ _ _ hS fun b o _ eb => e₃.all b o eb) (eY.ext0 e₃)
    (fun b q => ⟨Nat.le_trans t.ok.size (hW b q).1, Nat.lt_of_lt_of_le (hW b q).2 e₃.size, hWX b q⟩) hz (fun s' e' ev fr hP' => wpAny_pure ?_)
  refine ⟨⟨fun b o nb eb => e'.keep b o (fun q => q.elim nb fun q => Nat.lt_irrefl _ (Nat.lt_of_lt_of_le (Heap.lt_size eb) (hW b q).1)) (e₃.all _ _ (e₂.all b o eb)), Nat.le_trans e₂.size (Nat.le_trans e₃.size e'.size), (e'.os.trans e₃.os).trans e₂.os, fun g => e'.gens (e₃.gens (e₂.gens g))⟩, ev.back hxA, ?_⟩
  exact k.acc.move (fun b o q eb => ⟨eb, fun nb q => nb (.inl q)⟩) (X := Un X W) (by
    refine k.acc.move (fun b o q eb => ⟨eb, fun nb => nb⟩) hP')
end
end Mine
namespace Mine

noncomputable def closL (env : Env) : List (Str × NameKind) → List (Str × Addr) → List (Str × Addr)
  | [], acc => acc
  | (n, k) :: r, acc => if k == .free then closL env r ((n, (env.cells.lookup n).getD 0) :: acc) else closL env r acc

theorem closureFor_go (env : Env) (f : Str × NameKind → List (Str × Addr) → Sem (ForInStep (List (Str × Addr))))
    (hf : ∀ n k acc, f (n, k) acc = if k == .free then (do let a ← cellOf env n; pure (.yield ((n, a) :: acc))) else pure (.yield acc)) :
    ∀ (names : List (Str × NameKind)) (acc : List (Str × Addr)), (∀ p ∈ names, p.2 = .free → (env.cells.lookup p.1).isSome = true) → forIn names acc f = pure (closL env names acc)
  | [], acc, _ => rfl
  | (n, k) :: r, acc, h => by
    rw [List.forIn_cons, hf]
    unfold closL
    by_cases hk : (k == NameKind.free) = true
    · rw [if_pos hk, if_pos hk]
      obtain ⟨a, ha⟩ := Option.isSome_iff_exists.mp (h (n, k) (.head _) (by simpa using hk))
      have e : cellOf env n = pure a := by unfold cellOf; rw [ha]
      rw [e, ha]
      simp only [pure_bind]
      exact closureFor_go env f hf r _ fun p hp => h p (.tail _ hp)
    · rw [if_neg hk, if_neg hk]
      simp only [pure_bind]
      exact closureFor_go env f hf r _ fun p hp => h p (.tail _ hp)
theorem closureFor_eq {scope : Scope} {env : Env} (h : ∀ p ∈ scope.names, p.2 = .free → (env.cells.lookup p.1).isSome = true) : closureFor scope env = pure (closL env scope.names []) := by
  simp only [closureFor]
  rw [closureFor_go env _ (fun n k acc => by cases hk : (k == NameKind.free) <;> simp [hk]) _ _ h]
  rfl

theorem closL_mem (env : Env) : ∀ (names : List (Str × NameKind)) (acc : List (Str × Addr)) (x : Str) (a : Addr), (x, a) ∈ closL env names acc ↔ ((x, a) ∈ acc ∨ ((x, NameKind.free) ∈ names ∧ a = (env.cells.lookup x).getD 0))
  | [], acc, x, a => by simp [closL]
  | (n, k) :: r, acc, x, a => by
    unfold closL
    split
    · rename_i hk
      have hk : k = .free := by simpa using hk
      subst hk
      rw [closL_mem env r, List.mem_cons, List.mem_cons]
      constructor
      · rintro ((e | e) | ⟨e, r⟩)
        · obtain ⟨rfl, rfl⟩ := Prod.mk.inj e; exact .inr ⟨.inl rfl, rfl⟩
        · exact .inl e
        · exact .inr ⟨.inr e, r⟩
      · rintro (e | ⟨e | e, r⟩)
        · exact .inl (.inr e)
        · obtain ⟨rfl, _⟩ := Prod.mk.inj e; exact .inl (.inl (by rw [r]))
        · exact .inr ⟨e, r⟩
    · rename_i hk
      have hk : k ≠ .free := by simpa using hk
      rw [closL_mem env r, List.mem_cons]
      constructor
      · rintro (e | ⟨e, r⟩)
        · exact .inl e
        · exact .inr ⟨.inr e, r⟩
      · rintro (e | ⟨e | e, r⟩)
        · exact .inl e
        · obtain ⟨_, q⟩ := Prod.mk.inj e; exact absurd q.symm hk
        · exact .inr ⟨e, r⟩
theorem closL_keys (env : Env) : ∀ (names : List (Str × NameKind)) (acc : List (Str × Addr)), (names.map (·.1)).Nodup → (acc.map (·.1)).Nodup → (∀ p ∈ names, ∀ q ∈ acc, p.1 ≠ q.1) → ((closL env names acc).map (·.1)).Nodup
  | [], acc, _, h, _ => h
  | (n, k) :: r, acc, hn, h, hd => by
    rw [List.map_cons, List.nodup_cons] at hn
    unfold closL
    split
    · refine closL_keys env r _ hn.2 ?_ fun p hp q hq => ?_
      · rw [List.map_cons, List.nodup_cons]
        refine ⟨fun hm => ?_, h⟩
        obtain ⟨q, hq, e⟩ := List.mem_map.mp hm
        exact hd _ (.head _) q hq e.symm
      · rcases List.mem_cons.mp hq with rfl | hq
        · exact fun e => hn.1 (List.mem_map.mpr ⟨p, hp, e⟩)
        · exact hd p (.tail _ hp) q hq
    · exact closL_keys env r acc hn.2 h fun p hp => hd p (.tail _ hp)

theorem cellsFrom_append : ∀ (names : List (Str × NameKind)) (k : Nat) (a b : List (Str × Addr)), cellsFrom k names (a ++ b) = cellsFrom k names a ++ b
  | [], _, _, _ => rfl
  | (n, kd) :: r, k, a, b => by
    unfold cellsFrom
    split
    · exact cellsFrom_append r (k + 1) ((n, k) :: a) b
    · exact cellsFrom_append r k a b
theorem cellsFrom_names : ∀ (names : List (Str × NameKind)) (k : Nat) (acc : List (Str × Addr)) (x : Str) (a : Addr), (x, a) ∈ cellsFrom k names acc → (x, a) ∈ acc ∨ (x, NameKind.cell) ∈ names
  | [], _, _, _, _, h => .inl h
  | (n, kd) :: r, k, acc, x, a, h => by
    unfold cellsFrom at h
    split at h
    · rename_i hk
      have hk : kd = .cell := by simpa using hk
      rcases cellsFrom_names r (k + 1) _ x a h with e | e
      · rcases List.mem_cons.mp e with e | e
        · obtain ⟨rfl, _⟩ := Prod.mk.inj e; exact .inr (by rw [hk]; exact .head _)
        · exact .inl e
      · exact .inr (.tail _ e)
    · exact (cellsFrom_names r k acc x a h).imp id fun e => .tail _ e

theorem lookup_app {α : Type} : ∀ (l₁ l₂ : List (Str × α)) (x : Str), (l₁ ++ l₂).lookup x = (l₁.lookup x).or (l₂.lookup x)
  | [], _, _ => rfl
  | (k, v) :: r, l₂, x => by
    rw [List.cons_append, List.lookup_cons, List.lookup_cons]
    cases x == k with
    | true => rfl
    | false => exact lookup_app r l₂ x
theorem lookup_none_of {α : Type} : ∀ {l : List (Str × α)} {x : Str}, (∀ a, (x, a) ∉ l) → l.lookup x = none
  | [], _, _ => rfl
  | (k, v) :: r, x, h => by
    rw [List.lookup_cons]
    by_cases hx : x = k
    · subst hx; exact absurd (.head _) (h v)
    · rw [beq_eq_false_iff_ne.mpr hx]
      exact lookup_none_of fun a ha => h a (.tail _ ha)

/-- the names of a comprehension's frame: what it captures stands in cells -/
noncomputable def capNames (names : List (Str × NameKind)) : List (Str × NameKind) := names.map fun p => (p.1, if p.2 == .free then .cell else p.2)

noncomputable def compCells (scope : Scope) (env : Env) (C : Addr) : List (Str × Addr) := cellsFrom (C + 1) scope.names (closL env scope.names [])
noncomputable def cpE (scope : Scope) (env : Env) (C : Addr) : Env :=
  { scope := relabel scope env, locals := C, globals := env.globals, cells := compCells scope env C, qual := env.qual, func := none, code := env.code, frame := env.frame, builtins := env.builtins }

section
variable {c : Wd} {env : Env} {ρ ρ' : Ro} {n : Nat} {A : Around} {X W : Addr → Prop} {s s' : Shared}

theorem newCompEnv {M : Model} {E : Value → Shared → Prop} {scope : Scope} {Q : Env → Shared → Prop}
    (hQ : ∀ h', h'.Ns s.heap.objs.size (fun _ => none) → (∀ n a, (n, a) ∈ cellsFrom (s.heap.objs.size + 1) scope.names [] → h'.IsCell a none ∧ @LT.lt Nat _ s.heap.objs.size a) →
      ((cellsFrom (s.heap.objs.size + 1) scope.names []).Pairwise fun x y => x.2 ≠ y.2) → (∀ b o, s.heap.get? b = some o → h'.get? b = some o) →
      Q { scope := scope, locals := s.heap.objs.size, globals := env.globals, cells := compCells scope env s.heap.objs.size, qual := env.qual, func := none, code := env.code, frame := env.frame, builtins := env.builtins } { s with heap := h' }) :
    wpAny M A (newFunctionEnv scope env.globals (closL env scope.names []) [] env.qual none .none (some env)) Q E s := by
  simp only [newFunctionEnv, Option.isSome_some, if_true]
  refine wpAny_bind (wpAny_alloc ?_)
  refine wpAny_bind (wpAny_layCells _ (fun name kind cells => by cases hkc : kind == NameKind.cell <;> simp [hkc]) _ _ _ _ ?_)
  have ok := cellsFrom_ok scope.names (s.heap.push { cls := .type "dict", data := .dict #[] }) (s.heap.objs.size + 1) [] ⟨fun _ _ hm => (nomatch hm), List.Pairwise.nil⟩ (by rw [Heap.size_push]; exact Nat.le_refl _)
  rw [Heap.size_push] at ok
  rw [show ({ s with heap := s.heap.push { cls := .type "dict", data := .dict #[] } } : Shared).heap.objs.size = s.heap.objs.size + 1 from Heap.size_push ..]
  simp only [List.forIn_nil]
  refine wpAny_bind (wpAny_pure (wpAny_pure ?_))
  exact hQ _ ((Heap.Ns.new s.heap (.type "dict")).keeps (pushCells_keeps _ _)) (fun n a hm => ⟨(ok.empty n a hm).1, (ok.empty n a hm).2⟩) ok.apart fun b o e => pushCells_keeps _ _ b o (Heap.get?_push_of_some _ e)

/-- what a comprehension's scope asks of the frame around it -/
structure CapOk (env : Env) (names : List (Str × NameKind)) : Prop where
  nd : (names.map (·.1)).Nodup
  free : ∀ p ∈ names, p.2 = .free → env.kindOf p.1 = some .cell ∧ (env.cells.lookup p.1).isSome = true

theorem relabel_names {scope : Scope} (hk : env.scope.kind = .function) (K : CapOk env scope.names) : (relabel scope env).names = capNames scope.names := by
  unfold relabel capNames
  dsimp only
  refine List.map_congr_left fun p hp => ?_
  obtain ⟨x, k⟩ := p
  by_cases hf : k = .free
  · subst hf
    have := (K.free _ hp rfl).1
    simp [hk, this]
  · have : (k == NameKind.free) = false := by simpa using hf
    simp [this]

theorem lookup_cap : ∀ (names : List (Str × NameKind)) (x : Str), (capNames names).lookup x = (names.lookup x).map fun k => if k == .free then .cell else k
  | [], _ => rfl
  | (y, k) :: r, x => by
    show List.lookup x ((y, if k == NameKind.free then NameKind.cell else k) :: capNames r) = _
    rw [List.lookup_cons, List.lookup_cons]
    cases x == y with
    | true => rfl
    | false => exact lookup_cap r x

/-- what of the frame around it a comprehension sees -/
noncomputable def SeeOk (c : Wd) (env : Env) (ρ : Ro) (names : List (Str × NameKind)) (p : Str × D) : Prop :=
  (p ∈ ρ ∧ names.lookup p.1 = some .free) ∨ (names.lookup p.1 = some .globalImplicit ∧ ((p ∈ ρ ∧ env.kindOf p.1 = some .globalImplicit) ∨ ∃ v, p.2 = .glob v ∧ (c.mg p.1 = some v ∨ (c.mg p.1 = none ∧ c.mb p.1 = some v))))

/-- the comprehension's own frame -/
theorem comp_frame {scope : Scope} {h' : Heap} (t : St c env ρ n A X s) (hk : scope.kind = .function) (K : CapOk env scope.names) {ρc : Ro}
    (hc : ∀ p ∈ ρc, SeeOk c env ρ scope.names p)
    (hz : s.heap.objs.size ≤ h'.objs.size) (hns : h'.Ns s.heap.objs.size (fun _ => none)) (hcells : ∀ n a, (n, a) ∈ cellsFrom (s.heap.objs.size + 1) scope.names [] → h'.IsCell a none ∧ @LT.lt Nat _ s.heap.objs.size a)
    (hap : (cellsFrom (s.heap.objs.size + 1) scope.names []).Pairwise fun x y => x.2 ≠ y.2) (hkeep : ∀ b o, s.heap.get? b = some o → h'.get? b = some o) {X' : Addr → Prop}
    (hX' : ∀ b, X' b ↔ (X b ∨ LocA (cpE scope env s.heap.objs.size) b)) :
    Fenv (cpE scope env s.heap.objs.size) (capNames scope.names) scope.names ∧ EnvOk c (cpE scope env s.heap.objs.size) ρc X' h' ∧ (∀ b, X' b → b < h'.objs.size) := by
  generalize hC : s.heap.objs.size = C at *
  have hnm := relabel_names t.env.kind K
  have own_keys : ((cellsFrom (C + 1) scope.names []).map (·.1)).Nodup := cellsFrom_keys _ _ _ (fun _ _ _ h => nomatch h) K.nd .nil
  have cl_keys : ((closL env scope.names []).map (·.1)).Nodup := closL_keys _ _ _ K.nd .nil fun _ _ _ h => nomatch h
  have cells_eq : compCells scope env C = cellsFrom (C + 1) scope.names [] ++ closL env scope.names [] := cellsFrom_append scope.names (C + 1) [] _
  have lk : ∀ x, (cpE scope env C).cells.lookup x = ((cellsFrom (C + 1) scope.names []).lookup x).or ((closL env scope.names []).lookup x) := fun x => by
    show (compCells scope env C).lookup x = _
    rw [cells_eq, lookup_app]
  have nodup_kind : ∀ x k k', (x, k) ∈ scope.names → (x, k') ∈ scope.names → k = k' := fun x k k' h1 h2 => by
    have a := lookup_of_nodup K.nd h1
    have b := lookup_of_nodup K.nd h2
    exact Option.some.inj (a.symm.trans b)
  have lk_free : ∀ x, (x, NameKind.free) ∈ scope.names → ∃ a, env.cells.lookup x = some a ∧ (cpE scope env C).cells.lookup x = some a := fun x hx => by
    obtain ⟨a, ha⟩ := Option.isSome_iff_exists.mp (K.free _ hx rfl).2
    refine ⟨a, ha, ?_⟩
    rw [lk, lookup_none_of (fun b hb => ?_)]
    · show (closL env scope.names []).lookup x = _
      refine lookup_of_nodup cl_keys ((closL_mem ..).mpr (.inr ⟨hx, ?_⟩))
      rw [ha]; rfl
    · rcases cellsFrom_names _ _ _ _ _ hb with q | q
      · (first | refine q.eg ?_ | refine q.eb ?_ | refine q.en ?_ | refine q.e0 ?_ | refine q.el fun _ => ?_ | cases q)
      · have := nodup_kind _ _ _ hx q; cases this
  have split : ∀ x a, (cpE scope env C).cells.lookup x = some a → ((x, a) ∈ cellsFrom (C + 1) scope.names []) ∨ (env.cells.lookup x = some a) := fun x a h => by
    rw [lk] at h
    cases hh : (cellsFrom (C + 1) scope.names []).lookup x with
    | some b => rw [hh] at h; cases h; exact .inl (mem_of_lookup hh)
    | none =>
      rw [hh] at h
      have := mem_of_lookup (show (closL env scope.names []).lookup x = some a from h)
      rcases (closL_mem ..).mp this with q | ⟨q, e⟩
      · (first | refine q.eg ?_ | refine q.eb ?_ | refine q.en ?_ | refine q.e0 ?_ | refine q.el fun _ => ?_ | cases q)
      · obtain ⟨b, hb⟩ := Option.isSome_iff_exists.mp (K.free _ q rfl).2
        exact .inr (by rw [e, hb]; rfl)
  have F : Fenv (cpE scope env C) (capNames scope.names) scope.names := by
    refine ⟨hnm, fun x hx => ?_, fun x hx => ?_, by show (relabel scope env).kind = _; unfold relabel; exact hk⟩
    rotate_left
    · obtain ⟨a, ha⟩ := Option.isSome_iff_exists.mp (cellsFrom_isSome scope.names (C + 1) hx)
      exact ⟨a, by rw [lk, ha]; rfl, (hcells x a (mem_of_lookup ha)).2⟩
    rw [lookup_cap] at hx
    cases hh : scope.names.lookup x with
    | none => rw [hh] at hx; cases hx
    | some k =>
      rw [hh] at hx
      by_cases hf : k = .free
      · subst hf
        obtain ⟨a, _, h2⟩ := lk_free x (mem_of_lookup hh)
        rw [h2]; rfl
      · have hkc : k = .cell := by
          have : (k == NameKind.free) = false := by simpa using hf
          simp only [Option.map_some, this, Bool.false_eq_true, if_false] at hx
          exact Option.some.inj hx
        subst hkc
        have := cellsFrom_isSome scope.names (C + 1) hh
        rw [lk]
        obtain ⟨a, ha⟩ := Option.isSome_iff_exists.mp this
        rw [ha]; rfl
  have cap_lt : ∀ x a, env.cells.lookup x = some a → @LT.lt Nat _ a C := fun x a h => hC ▸ t.x a (t.env.cell x a h).2.1
  have loC : c.hb.objs.size ≤ C := hC ▸ t.ok.size
  have grow : ∀ b o, ¬ X b → s.heap.get? b = some o → h'.get? b = some o ∧ ¬ X' b := fun b o nb e => by
    refine ⟨hkeep b o e, fun q => ?_⟩
    have hb : @LT.lt Nat _ b C := hC ▸ Heap.lt_size e
    rcases (hX' b).mp q with q | rfl | ⟨k, q⟩
    · exact nb q
    · exact Nat.lt_irrefl _ hb
    · rcases split k b q with q | q
      · exact Nat.lt_asymm hb (hcells k b q).2
      · exact nb (t.env.cell k b q).2.1
  refine ⟨F, ⟨⟨F.plain, t.env.glob, t.env.blt, ⟨_, hns⟩, (hX' _).mpr (.inr (.inl rfl)), loC, fun x a h => ?_, fun x y a h1 h2 => ?_⟩, fun x d hx => ?_⟩, fun b q => ?_⟩
  · refine ⟨?_, (hX' _).mpr (.inr (.inr ⟨x, h⟩)), ?_⟩
    · rcases split x a h with q | q
      · exact ⟨_, (hcells x a q).1⟩
      · obtain ⟨⟨ov, o, e, d⟩, _⟩ := t.env.cell x a q
        exact ⟨ov, o, hkeep _ _ e, d⟩
    · rcases split x a h with q | q
      · exact ⟨Nat.ne_of_gt (hcells x a q).2, Nat.le_trans loC (Nat.le_of_lt (hcells x a q).2)⟩
      · exact ⟨Nat.ne_of_lt (cap_lt x a q), (t.env.cell x a q).2.2.2⟩
  · rcases split x a h1 with q1 | q1 <;> rcases split y a h2 with q2 | q2
    · exact name_of_addr hap q1 q2
    · exact absurd (cap_lt y a q2) (Nat.lt_asymm (hcells x a q1).2)
    · exact absurd (cap_lt x a q1) (Nat.lt_asymm (hcells y a q2).2)
    · exact t.env.inj x y a q1 q2
  · rcases hc _ hx with ⟨hx1, hf⟩ | ⟨hg, ⟨hx1, hg'⟩ | ⟨v, hv, gv⟩⟩
    · obtain ⟨v, q, r⟩ := t.env.val x d hx1
      refine ⟨v, ?_, r.move grow⟩
      have hkind := (K.free _ (mem_of_lookup hf) rfl).1
      dsimp only at hkind
      obtain ⟨a, ha1, ha2⟩ := lk_free x (mem_of_lookup hf)
      refine .inr (.inl ⟨F.kind (by rw [lookup_cap, hf]; rfl), a, ha2, ?_⟩)
      rcases q with ⟨q, _⟩ | ⟨_, b, q1, q2⟩ | ⟨q, _⟩
      · rw [hkind] at q; (first | refine q.eg ?_ | refine q.eb ?_ | refine q.en ?_ | refine q.e0 ?_ | refine q.el fun _ => ?_ | cases q)
      · rw [ha1] at q1; cases q1; exact q2.keeps hkeep
      · rw [hkind] at q; (first | refine q.eg ?_ | refine q.eb ?_ | refine q.en ?_ | refine q.e0 ?_ | refine q.el fun _ => ?_ | cases q)
    · obtain ⟨v, q, r⟩ := t.env.val x d hx1
      refine ⟨v, ?_, r.move grow⟩
      refine .inr (.inr ⟨F.kind (by rw [lookup_cap, hg]; rfl), ?_⟩)
      rcases q with ⟨q, _⟩ | ⟨q, _⟩ | ⟨_, q⟩
      · rw [hg'] at q; (first | refine q.eg ?_ | refine q.eb ?_ | refine q.en ?_ | refine q.e0 ?_ | refine q.el fun _ => ?_ | cases q)
      · rw [hg'] at q; (first | refine q.eg ?_ | refine q.eb ?_ | refine q.en ?_ | refine q.e0 ?_ | refine q.el fun _ => ?_ | cases q)
      · exact q
    · dsimp only at hv hg gv
      subst hv
      exact ⟨v, .inr (.inr ⟨F.kind (by rw [lookup_cap, hg]; rfl), gv⟩), .glob _⟩
  · rcases (hX' b).mp q with q | rfl | ⟨k, q⟩
    · exact Nat.lt_of_lt_of_le (hC ▸ t.x b q) hz
    · exact hns.lt
    · rcases split k b q with q | q
      · exact (hcells k b q).1.lt
      · exact Nat.lt_of_lt_of_le (cap_lt k b q) hz
end
end Mine
namespace Mine
section
variable {c : Wd} {env : Env} {ρ ρ' ρc : Ro} {n : Nat} {A : Around} {X W : Addr → Prop} {s s' : Shared}

/-- the whole of a comprehension over lists, up to what is done with it -/
theorem comp_core {O : Type} {e elt : Expr} {g : Comprehension} {gs : List Comprehension} {scope : Scope} {pos : Pos} {ds : List D} (f : D → List O) {use : Option (Value → Sem Unit)} {Q : Value → Shared → Prop}
    (k : ∀ env', CompK c O e (g :: gs) env') (acc : AccKind c O) (hacc : ∀ env', (k env').acc = acc) (newAcc : Sem Value) (o₀ : Obj) (ho₀ : o₀.isFreed = false)
    (hnew : ∀ (s : Shared) (Q : Value → Shared → Prop), Q (.ref s.heap.objs.size) { s with heap := s.heap.push o₀ } → wpAny (model c.prog c.w) A newAcc Q FF s)
    (hP₀ : ∀ X a h, h.get? a = some o₀ → acc.P X a h [])
    (hasy : ∀ g' ∈ g :: gs, g'.is_async = 0) (hk : scope.kind = .function) (K : CapOk env scope.names) (hcl : clausesOf e = g :: gs)
    (hI : IterJ c env n ρ g.iter g.target ds) (hs : ∀ x, foldedSetIterable g.iter env x = pure x)
    (hc : ∀ p ∈ ρc, SeeOk c env ρ scope.names p)
    (items : ∀ env', Fenv env' (capNames scope.names) scope.names → ∀ d ∈ ds, ItemJ c env' n ρc (k env') g 0 d (f d))
    (hz : (ds.map f).flatten.length ≤ sizeLine) (t : St c env ρ n A X s)
    (hQ : ∀ s' a C X', Ext No s s' → (∀ b, X' b → X b ∨ s.heap.objs.size ≤ b) → (∀ b, X b → X' b) → X' C → X' a → a ≠ C → s.heap.objs.size ≤ a → s.heap.objs.size ≤ C → (∃ m, s'.heap.Ns C m) → acc.P X' a s'.heap (ds.map f).flatten →
      compPost (model c.prog c.w) A FF use Q (.ref a) C (.ok .next) s') :
    wpAny (model c.prog c.w) A (comprehension e scope env pos newAcc false (eval g.iter env) use) Q FF s := by
  have hnames : ∀ x ∈ scope.names, x.2 = .local → scope.names.lookup x.1 = some .local := fun x hx hl => by
    have := lookup_of_nodup K.nd (n := x.1) (a := x.2) hx
    rw [hl] at this; exact this
  refine wpAny_comprehension_free hcl hs (closureFor_eq fun p hp hf => (K.free p hp hf).2) hk hnames (wpAny_mono (hI A s X t) (fun v s₁ q => wpAny_mono q (fun it s₂ q => ?_) fun _ _ f => f.elim) fun _ _ f => f.elim)
  obtain ⟨e₂, I, W, rfl, hW, hit⟩ := q
  refine hnew s₂ _ ?_
  generalize hs3 : ({ s₂ with heap := s₂.heap.push o₀ } : Shared) = s₃
  have h3 : s₃.heap = s₂.heap.push o₀ := by rw [← hs3]
  have e₃ : Ext No s₂ s₃ := by rw [← hs3]; exact .push s₂ _ s₂.toks
  have hz3 : s₃.heap.objs.size = s₂.heap.objs.size + 1 := by rw [h3, push_size]
  have ha3 : s₃.heap.get? s₂.heap.objs.size = some o₀ := by rw [h3]; exact Heap.get?_push_size _ ho₀
  generalize haa : s₂.heap.objs.size = a at *
  have t₂ : St c env ρ n A X s₂ := t.ext e₂
  have t₃x : St c env ρ n A X s₃ := t₂.ext e₃
  have hsa : s.heap.objs.size ≤ a := haa ▸ e₂.size
  let Xa : Addr → Prop := Un X (fun b => b = a)
  have t₃ : St c env ρ n A Xa s₃ := by
    refine ⟨t₃x.room, t₃x.ok, fun b q => q.elim (t₃x.x b) fun q => by rw [q, hz3]; exact Nat.lt_succ_self _, ?_⟩
    have := (t.env.un (W := fun b => b = a) fun b q => by rw [q]; exact hsa).ext0 (e₂.trans e₃)
    exact this
  refine wpAny_withsize (newCompEnv fun h' hns hcells hap hkeep z => ?_)
  have e₄ : Ext No s₃ { s₃ with heap := h' } := .of (fun b o _ e => hkeep b o e) z
  have t₃W : St c env ρ n A (Un Xa W) s₃ := by
    refine ⟨t₃x.room, t₃x.ok, fun b q => q.elim (t₃.x b) fun q => (by have h7 := (hW b q).2; (try rw [haa] at h7); rw [hz3]; exact Nat.lt_succ_of_lt h7), ?_⟩
    have h0 : EnvOk c env ρ (Un X (fun b => b = a ∨ W b)) s.heap := t.env.un (W := fun b => b = a ∨ W b) fun b q => q.elim (fun q => by rw [q]; exact hsa) fun q => (hW b q).1
    have h1 := h0.ext0 (e₂.trans e₃)
    refine ⟨⟨h1.kind, h1.glob, h1.blt, h1.ns, .inl (.inl t.env.xl), h1.lo, fun m b e => let ⟨a1, a2, a3⟩ := h1.cell m b e; ⟨a1, .inl (.inl (t.env.cell m b e).2.1), a3⟩, h1.inj⟩, fun x d hx => ?_⟩
    obtain ⟨v, q, r⟩ := h1.val x d hx
    exact ⟨v, q, r.move fun b o nb e => ⟨e, fun q => nb (q.elim (fun q => q.elim .inl fun q => .inr (.inl q)) fun q => .inr (.inr q))⟩⟩
  obtain ⟨F, ev, hx⟩ := comp_frame (X' := fun b => Xa b ∨ LocA (cpE scope env s₃.heap.objs.size) b) t₃ hk K hc z hns hcells hap hkeep fun b => Iff.rfl
  obtain ⟨_, evW, _⟩ := comp_frame (X' := fun b => (Xa b ∨ LocA (cpE scope env s₃.heap.objs.size) b) ∨ W b) t₃W hk K hc z hns hcells hap hkeep fun b => by
    constructor
    · exact fun q => q.elim (fun q => q.elim (fun q => .inl (.inl q)) .inr) fun q => .inl (.inr q)
    · exact fun q => q.elim (fun q => q.elim (fun q => .inl (.inl q)) .inr) fun q => .inl (.inr q)
  have hLocA : ∀ b, LocA (cpE scope env s₃.heap.objs.size) b → X b ∨ s₃.heap.objs.size ≤ b := fun b q => by
    rcases q with rfl | ⟨m, q⟩
    · exact .inr (Nat.le_refl _)
    · have q : (compCells scope env s₃.heap.objs.size).lookup m = some b := q
      have q := mem_of_lookup q
      unfold compCells at q
      rw [show closL env scope.names [] = [] ++ closL env scope.names [] from rfl, cellsFrom_append] at q
      rcases List.mem_append.mp q with q | q
      · exact .inr (Nat.le_of_lt (hcells m b q).2)
      · rcases (closL_mem ..).mp q with q | ⟨q, e⟩
        · (first | refine q.eg ?_ | refine q.eb ?_ | refine q.en ?_ | refine q.e0 ?_ | refine q.el fun _ => ?_ | cases q)
        · obtain ⟨b', hb⟩ := Option.isSome_iff_exists.mp (K.free _ q rfl).2
          dsimp only at hb
          rw [hb] at e
          have e : b = b' := e
          exact .inl (e ▸ (t.env.cell m b' hb).2.1)
  have hLoc : ∀ b, Loc (cpE scope env s₃.heap.objs.size) b → s₃.heap.objs.size ≤ b := fun b q => by
    rcases q with rfl | ⟨q, _⟩
    · exact Nat.le_refl _
    · exact Nat.le_of_lt q
  generalize hC : s₃.heap.objs.size = C at *
  show codeAny (model c.prog c.w) A (.compStart e 0 (.ref I) (.ref a) (cpE scope env C)) _ _
  let X' : Addr → Prop := fun b => Xa b ∨ LocA (cpE scope env C) b
  have haC : a ≤ C := by rw [hz3]; exact Nat.le_succ _
  have hX'2 : ∀ b, X' b → X b ∨ a ≤ b := fun b q => by
    rcases q with (q | q) | q
    · exact .inl q
    · exact .inr (by rw [q]; exact Nat.le_refl _)
    · exact (hLocA b q).imp id fun q => Nat.le_trans haC q
  obtain ⟨S, hS, it⟩ := hit X' (fun b q => (hX'2 b q).imp id fun q => by first | exact q | (rw [haa]; exact q))
  have okk : Ok c.hb { s₃ with heap := h' } := t₃.ok.ext0 e₄
  have hIW : ∀ b, W b → ¬ X' b := fun b w q => by
    rcases hX'2 b q with q | q
    · exact Nat.lt_irrefl _ (Nat.lt_of_lt_of_le (t.x b q) (hW b w).1)
    · have h7 := (hW b w).2
      try rw [haa] at h7
      exact Nat.lt_irrefl _ (Nat.lt_of_lt_of_le h7 q)
  have hWlt : ∀ b, W b → b < h'.objs.size := fun b w => by
    have h7 := (hW b w).2
    try rw [haa] at h7
    exact Nat.lt_of_lt_of_le h7 (Nat.le_trans haC z)
  have tc : St c (cpE scope env C) ρc n A X' { s₃ with heap := h' } := ⟨t.room, okk, hx, ev⟩
  have hS' : S 0 h' := it.frame _ _ _ hS fun b o _ e => hkeep _ _ (e₃.all b o e)
  have sv : Sv c n A (Un X' W) { s₃ with heap := h' } := ⟨t.room, okk, fun b q => q.elim (hx b) (hWlt b)⟩
  have hCa : a < C := by rw [hz3]; exact Nat.lt_succ_self _
  have hla : ¬ Loc (cpE scope env C) a := fun q => Nat.lt_irrefl _ (Nat.lt_of_lt_of_le hCa (hLoc a q))
  refine start_gath (k := k (cpE scope env C)) (g := g) (depth := 0) rfl (hasy g (.head _)) it sv hS' fun s₅ e₅ => ?_
  have tc5 := tc.ext e₅
  refine loop_gath (k := k (cpE scope env C)) f (g := g) (depth := 0) (os := []) rfl hasy (items _ F) it tc5 (.inl (.inr rfl)) (Nat.le_trans t.ok.size hsa) hla ?_ (it.frame _ _ _ hS' fun b o _ e => e₅.all b o e) (EnvOk.ext0 (s := { s₃ with heap := h' }) evW e₅)
    (fun b w => ⟨Nat.le_trans t.ok.size (hW b w).1, Nat.lt_of_lt_of_le (hWlt b w) e₅.size, hIW b w⟩) (by simpa using hz) (fun s' e' ev' fr' hP' => ?_)
  · rw [hacc]; exact hP₀ _ _ _ (e₅.all _ _ (hkeep _ _ ha3))
  · rw [hacc, List.nil_append] at hP'
    refine hQ s' a C (Un X' W) ?_ (fun b q => ?_) (fun b q => .inl (.inl (.inl q))) (.inl (.inr (.inl rfl))) (.inl (.inl (.inr rfl))) (Nat.ne_of_lt hCa) hsa (Nat.le_trans hsa haC) fr'.ns hP'
    · have hh : Ext No s s₅ := ((e₂.trans e₃).trans e₄).trans e₅
      refine ⟨fun b o _ e => e'.keep b o (fun q => ?_) (hh.all b o e), Nat.le_trans hh.size e'.size, e'.os.trans hh.os, fun g => e'.gens (hh.gens g)⟩
      have hb := Heap.lt_size e
      rcases q with (q | q) | q
      · exact Nat.lt_irrefl _ (Nat.lt_of_lt_of_le hb (Nat.le_trans hsa (Nat.le_trans haC (hLoc b q))))
      · rw [q] at hb; exact Nat.lt_irrefl _ (Nat.lt_of_lt_of_le hb hsa)
      · exact Nat.lt_irrefl _ (Nat.lt_of_lt_of_le hb (hW b q).1)
    · rcases q with q | q
      · exact (hX'2 b q).imp id fun q => Nat.le_trans hsa q
      · exact .inr (hW b q).1
end
end Mine
namespace Mine
section
variable {c : Wd} {env : Env} {ρ ρ' ρc : Ro} {n : Nat} {A : Around} {X W : Addr → Prop} {s s' : Shared} {R : FlowD → Prop}

theorem CapOk.of {NM NO names : List (Str × NameKind)} (F : Fenv env NM NO) (nd : (names.map (·.1)).Nodup) (h : ∀ p ∈ names, p.2 = .free → NM.lookup p.1 = some .cell) : CapOk env names :=
  ⟨nd, fun p hp hf => ⟨F.kind (h p hp hf), F.cells _ (h p hp hf)⟩⟩

/-- what a list comprehension's parts give -/
structure LC (c : Wd) (env : Env) (n : Nat) (ρ ρc : Ro) (elt : Expr) (g : Comprehension) (gs : List Comprehension) (scope : Scope) (pos : Pos) (ds : List D) (f : D → List D) : Prop where
  hasy : ∀ g' ∈ g :: gs, g'.is_async = 0
  hk : scope.kind = .function
  K : CapOk env scope.names
  hI : IterJ c env n ρ g.iter g.target ds
  hs : ∀ x, foldedSetIterable g.iter env x = pure x
  hc : ∀ p ∈ ρc, SeeOk c env ρ scope.names p
  items : ∀ env', Fenv env' (capNames scope.names) scope.names → ∀ d ∈ ds, ItemJ c env' n ρc (listK c elt (g :: gs) scope pos env') g 0 d (f d)
  hz : (ds.map f).flatten.length ≤ sizeLine

theorem LC.core {elt : Expr} {g : Comprehension} {gs : List Comprehension} {scope : Scope} {pos p : Pos} {ds : List D} {f : D → List D} {use : Option (Value → Sem Unit)} {Q : Value → Shared → Prop}
    (L : LC c env n ρ ρc elt g gs scope pos ds f) (t : St c env ρ n A X s)
    (hQ : ∀ s' a C X', Ext No s s' → (∀ b, X' b → X b ∨ s.heap.objs.size ≤ b) → (∀ b, X b → X' b) → X' C → X' a → a ≠ C → s.heap.objs.size ≤ a → s.heap.objs.size ≤ C → (∃ m, s'.heap.Ns C m) → (listAcc c).P X' a s'.heap (ds.map f).flatten →
      compPost (model c.prog c.w) A FF use Q (.ref a) C (.ok .next) s') :
    wpAny (model c.prog c.w) A (comprehension (.ListComp elt (g :: gs) scope pos) scope env p (newList []) false (eval g.iter env) use) Q FF s :=
  comp_core (elt := elt) (pos := p) f (fun env' => listK c elt (g :: gs) scope pos env') (listAcc c) (fun _ => rfl) (newList []) { cls := .type "list", data := .seq ([] : List Value).toArray } rfl
    (fun s Q h => wpAny_newObj_type h) (fun X a h e => ⟨[], 0, e, .nil⟩) L.hasy L.hk L.K rfl L.hI L.hs L.hc L.items L.hz t hQ

theorem first_sync {g : Comprehension} {gs : List Comprehension} (ha : g.is_async = 0) : firstAsync (g :: gs) = false := by
  cases g; simp only at ha; subst ha; rfl
theorem first_iter {g : Comprehension} {gs : List Comprehension} : firstIter (g :: gs) env = eval g.iter env := by cases g; rfl

theorem ev_comp {elt : Expr} {g : Comprehension} {gs : List Comprehension} {scope : Scope} {pos : Pos} {ds : List D} {f : D → List D} (L : LC c env n ρ ρc elt g gs scope pos ds f) :
    EvJ c env n ρ (.ListComp elt (g :: gs) scope pos) (.list (ds.map f).flatten) := fun A s X t => by
  rw [eval_ListComp, first_sync (L.hasy g (.head _)), first_iter]
  refine L.core (use := none) t fun s' a C X' e hX' hXX hC ha' hne hsa hsC hns hP => ?_
  obtain ⟨m, hns⟩ := hns
  refine ⟨m, hns, fun h' hs => ?_⟩
  obtain ⟨vs, k, h1, h2⟩ := hP
  have eC : Ext (fun b => b = C) s' { s' with heap := h' } := .same (t := s'.toks) hs
  refine ⟨⟨fun b o _ eb => eC.keep b o (fun q => ?_) (e.all b o eb), Nat.le_trans e.size eC.size, eC.os.trans e.os, fun g => eC.gens (e.gens g)⟩, .list ((hs.2 a hne).trans h1) (fun q => Nat.lt_irrefl _ (Nat.lt_of_lt_of_le (t.x a q) hsa)) ?_⟩
  · exact Nat.lt_irrefl _ (Nat.lt_of_lt_of_le (Heap.lt_size eb) (q ▸ hsC))
  · exact h2.move fun b o nb eb => ⟨hs.extBut b o (fun q => nb (q ▸ hC)) eb, fun q => nb (hXX b q)⟩

theorem ex_assignComp {y : Str} {elt : Expr} {g : Comprehension} {gs : List Comprehension} {scope : Scope} {pos p spos : Pos} {ds : List D} {f : D → List D} (L : LC c env n ρ ρc elt g gs scope pos ds f)
    (hsw : swapsWith (.ListComp elt (g :: gs) scope pos) (some (.Name y p)) spos.line env = pure true) (hy : Own env y) :
    Ex1 c env n ρ (.Assign [.Name y p] (.ListComp elt (g :: gs) scope pos) spos) (· = .next ((y, .list (ds.map f).flatten) :: dropN y ρ)) := fun A s X t => by
  rw [exec_Assign_Name_used _ _ _ _ hsw]
  have e1 : evalThenUse (.ListComp elt (g :: gs) scope pos) env (assign (.Name y p) env) = (do let _ ← comprehension (.ListComp elt (g :: gs) scope pos) scope env (firstIterPos (g :: gs) pos) (newList []) (firstAsync (g :: gs)) (firstIter (g :: gs) env) (some (assign (.Name y p) env)); pure ()) := by rfl
  rw [e1, first_sync (L.hasy g (.head _)), first_iter]
  refine wpAny_bind (wpAny_standAt (wpAny_bind (wpAny_bind ?_)))
  refine wpAny_mono (L.core (Q := fun _ s' => Ext (Loc env) s s' ∧ EnvOk c env ((y, .list (ds.map f).flatten) :: dropN y ρ) X s'.heap) (use := some (assign (.Name y p) env)) t fun s' a C X' e hX' hXX hC ha' hne hsa hsC hns hP => ?_) (fun _ s' q => wpAny_pure (wpAny_pure ⟨q.1, _, rfl, rfl, q.2⟩)) fun _ _ f => f.elim
  obtain ⟨m, hns⟩ := hns
  obtain ⟨vs, k, h1, h2⟩ := hP
  have hlt : ∀ b, b = C → b < s'.heap.objs.size := fun b q => q ▸ hns.lt
  have t' : St c env ρ n A (Un X (fun b => b = C)) s' :=
    ⟨t.room, t.ok.ext0 e, fun b q => q.elim (fun q => Nat.lt_of_lt_of_le (t.x b q) e.size) (hlt b), (t.env.un (W := fun b => b = C) fun b q => by rw [q]; exact hsC).ext0 e⟩
  have r : Rep c.prog c.w (Un X (fun b => b = C)) s'.heap (.ref a) (.list (ds.map f).flatten) := by
    refine .list h1 (fun q => q.elim (fun q => Nat.lt_irrefl _ (Nat.lt_of_lt_of_le (t.x a q) hsa)) hne) (h2.move fun b o nb eb => ⟨eb, fun q => q.elim (fun q => nb (hXX b q)) fun q => nb (q ▸ hC)⟩)
  show wpAny _ A (assign (.Name y p) env (.ref a)) _ _ _
  refine wpAny_mono (AsgJ.name hy A s' _ _ t' r) (fun _ s'' q => ?_) fun _ _ f => f.elim
  obtain ⟨e', ev'⟩ := q
  have hCL : ¬ Loc env C := fun q => Nat.lt_irrefl _ (Nat.lt_of_lt_of_le (t.x C (t.env.toFrm.loc C q)) hsC)
  obtain ⟨o, es, ep, b1, b2⟩ := id hns
  refine ⟨m, ⟨o, es, ep, e'.keep _ _ hCL b1, b2⟩, fun h' hs => ?_⟩
  have eC : Ext (fun b => b = C) s'' { s'' with heap := h' } := .same (t := s''.toks) hs
  have hCX : ∀ b, b = C → X b → False := fun b q q' => Nat.lt_irrefl _ (Nat.lt_of_lt_of_le (t.x C (q ▸ q')) hsC)
  refine ⟨⟨fun b o nb eb => eC.keep b o (fun q => ?_) (e'.keep b o nb (e.all b o eb)), Nat.le_trans e.size (Nat.le_trans e'.size eC.size), (eC.os.trans e'.os).trans e.os, fun g => eC.gens (e'.gens (e.gens g))⟩, ?_⟩
  · exact Nat.lt_irrefl _ (Nat.lt_of_lt_of_le (Heap.lt_size eb) (q ▸ hsC))
  · exact (EnvOk.extW (ev'.back t.env.toFrm.locA).toFrm ev' eC hCX).back t.env.toFrm.locA
end
end Mine
namespace Mine
section
variable {c : Wd} {env : Env} {ρ ρ' ρc : Ro} {n : Nat} {A : Around} {X W : Addr → Prop} {s s' : Shared} {R : FlowD → Prop}

/-! built-in functions -/
theorem fn_len_list {ds : List D} (hz : ds.length < 1000000) : FnJ c (.builtin "len") n [.list ds] (.int ds.length) := fun A s X vs t r => by
  refine r.ec fun _ _ r0 r1 => ?_
  (first | refine r1.eg ?_ | refine r1.eb ?_ | refine r1.en ?_ | refine r1.e0 ?_ | refine r1.el fun _ => ?_ | cases r1)
  refine r0.el fun _ _ _ ha hX rl => ?_
  have hl := rl.length
  refine call_len_list ⟨_, ha, rfl, _, rfl⟩ (by simp only [List.size_toArray]; omega) ⟨.toks .., ?_⟩
  simp only [List.size_toArray, hl]; exact .int ..

theorem int_at {ns : List Int} {vs : List Value} {h : Heap} (r : RepL c.prog c.w X h vs (ns.map .int)) (i : Nat) (v : Value) (hv : vs[i]? = some v) : ∃ t, v = .int (ns.getD i 0) t := by
  have hl := r.length
  have hi : i < vs.length := (List.getElem?_eq_some_iff.mp hv).1
  have hi' : i < ns.length := by simpa [hl] using hi
  obtain ⟨u, hu, ru⟩ := r.get i (.int (ns.getD i 0)) (by simp [hi', List.getD])
  rw [hv] at hu; cases hu
  (first | refine ru.eg ?_ | refine ru.eb ?_ | refine ru.en ?_ | refine ru.e0 ?_ | refine ru.el fun _ => ?_ | cases ru); exact ⟨_, rfl⟩

theorem fn_sum_list {ns : List Int} : FnJ c (.builtin "sum") n [.list (ns.map .int)] (.int ns.sum) := fun A s X vs t r => by
  refine r.ec fun _ _ r0 r1 => ?_
  (first | refine r1.eg ?_ | refine r1.eb ?_ | refine r1.en ?_ | refine r1.e0 ?_ | refine r1.el fun _ => ?_ | cases r1)
  refine r0.el fun a vs k ha hX rl => ?_
  have hl := rl.length
  refine wpAny_withsize (call_sum_walkG (wpAny_pyIter_list ⟨_, ha, rfl, _, rfl⟩ ⟨s.heap.objs.size, [s.heap.objs.size, a], [s.heap.objs.size], vs.toArray.size, (fun i v => vs.toArray[i]? = some v), _, (fun i => ns.getD i 0), rfl,
    Walks.list (A := A.in1) t.room.h s.heap.objs.size a (Nat.ne_of_lt (Heap.lt_size ha)) vs.toArray, ⟨⟨_, Heap.get?_push_size _ rfl, rfl, rfl⟩, ⟨_, Heap.get?_push_of_some _ ha, rfl, _, rfl⟩⟩, ?_, ?_, ?_⟩))
  · intro b hb
    show b < (s.heap.push _).objs.size
    rw [push_size]
    rcases List.mem_cons.mp hb with rfl | hb
    · exact Nat.lt_succ_self _
    · rcases List.mem_cons.mp hb with rfl | hb
      · exact Nat.lt_succ_of_lt (Heap.lt_size ha)
      · cases hb
  · exact fun i v hv => int_at rl i v (by simpa using hv)
  · intro h' tk t' hk hz
    refine ⟨.of (fun b o _ e => hk b o (fun q => ?_) (Heap.get?_push_of_some _ e)) hz, ?_⟩
    · exact Nat.lt_irrefl _ (List.mem_singleton.mp q ▸ Heap.lt_size e)
    · rw [preSum_getD]
      have : vs.toArray.size = ns.length := by simp [hl]
      rw [this, List.take_length]; exact .int ..

theorem fn_sum_tup {ns : List Int} : FnJ c (.builtin "sum") n [.tup (ns.map .int)] (.int ns.sum) := fun A s X vs t r => by
  refine r.ec fun _ _ r0 r1 => ?_
  (first | refine r1.eg ?_ | refine r1.eb ?_ | refine r1.en ?_ | refine r1.e0 ?_ | refine r1.el fun _ => ?_ | cases r1)
  refine r0.el fun a vs k ha hX rl => ?_
  have hl := rl.length
  refine wpAny_withsize (call_sum_walkG (wpAny_pyIter_tuple ⟨_, ha, rfl, _, rfl⟩ ⟨s.heap.objs.size, [s.heap.objs.size, a], [s.heap.objs.size], vs.toArray.size, (fun i v => vs.toArray[i]? = some v), _, (fun i => ns.getD i 0), rfl,
    Walks.tuple (A := A.in1) t.room.h s.heap.objs.size a (Nat.ne_of_lt (Heap.lt_size ha)) vs.toArray, ⟨⟨_, Heap.get?_push_size _ rfl, rfl, rfl⟩, ⟨_, Heap.get?_push_of_some _ ha, rfl, _, rfl⟩⟩, ?_, ?_, ?_⟩))
  · intro b hb
    show b < (s.heap.push _).objs.size
    rw [push_size]
    rcases List.mem_cons.mp hb with rfl | hb
    · exact Nat.lt_succ_self _
    · rcases List.mem_cons.mp hb with rfl | hb
      · exact Nat.lt_succ_of_lt (Heap.lt_size ha)
      · cases hb
  · exact fun i v hv => int_at rl i v (by simpa using hv)
  · intro h' tk t' hk hz
    refine ⟨.of (fun b o _ e => hk b o (fun q => ?_) (Heap.get?_push_of_some _ e)) hz, ?_⟩
    · exact Nat.lt_irrefl _ (List.mem_singleton.mp q ▸ Heap.lt_size e)
    · rw [preSum_getD]
      have : vs.toArray.size = ns.length := by simp [hl]
      rw [this, List.take_length]; exact .int ..

theorem fn_min2 {a b : Int} : FnJ c (.builtin "min") n [.int a, .int b] (.int (min a b)) := fun A s X vs t r => by
  refine r.ec fun _ _ r0 r1 => ?_
  refine r1.ec fun _ _ r1 r2 => ?_
  (first | refine r2.eg ?_ | refine r2.eb ?_ | refine r2.en ?_ | refine r2.e0 ?_ | refine r2.el fun _ => ?_ | cases r2); (first | refine r0.eg ?_ | refine r0.eb ?_ | refine r0.en ?_ | refine r0.e0 ?_ | refine r0.el fun _ => ?_ | cases r0); (first | refine r1.eg ?_ | refine r1.eb ?_ | refine r1.en ?_ | refine r1.e0 ?_ | refine r1.el fun _ => ?_ | cases r1)
  refine wpAny_withsize (min_two_ints t.room.h fun h' tk hk hz => ⟨.of (fun b o _ e => hk b o e) hz, ?_⟩)
  by_cases q : b < a
  · rw [if_pos q, show min a b = b by omega]; exact .int ..
  · rw [if_neg q, show min a b = a by omega]; exact .int ..
theorem fn_max2 {a b : Int} : FnJ c (.builtin "max") n [.int a, .int b] (.int (max a b)) := fun A s X vs t r => by
  refine r.ec fun _ _ r0 r1 => ?_
  refine r1.ec fun _ _ r1 r2 => ?_
  (first | refine r2.eg ?_ | refine r2.eb ?_ | refine r2.en ?_ | refine r2.e0 ?_ | refine r2.el fun _ => ?_ | cases r2); (first | refine r0.eg ?_ | refine r0.eb ?_ | refine r0.en ?_ | refine r0.e0 ?_ | refine r0.el fun _ => ?_ | cases r0); (first | refine r1.eg ?_ | refine r1.eb ?_ | refine r1.en ?_ | refine r1.e0 ?_ | refine r1.el fun _ => ?_ | cases r1)
  refine wpAny_withsize (max_two_ints t.room.h fun h' tk hk hz => ⟨.of (fun b o _ e => hk b o e) hz, ?_⟩)
  by_cases q : b > a
  · rw [if_pos q, show max a b = b by omega]; exact .int ..
  · rw [if_neg q, show max a b = a by omega]; exact .int ..

theorem fn_min_pair {x y : Int} : FnJ c (.builtin "min") n [.tup [.int x, .int y]] (.int (min x y)) := fun A s X vs t r => by
  refine r.ec fun _ _ r0 r1 => ?_
  (first | refine r1.eg ?_ | refine r1.eb ?_ | refine r1.en ?_ | refine r1.e0 ?_ | refine r1.el fun _ => ?_ | cases r1)
  refine r0.el fun a vs k ha hX rl => ?_
  have rl' : RepL c.prog c.w X s.heap vs ([x, y].map .int) := rl
  have hl := rl.length
  refine wpAny_withsize (call_min_walk (wpAny_pyIter_tuple ⟨_, ha, rfl, _, rfl⟩ ⟨s.heap.objs.size, [s.heap.objs.size, a], [s.heap.objs.size], vs.toArray.size, (fun i v => vs.toArray[i]? = some v), _, (fun i j => decide (([x, y] : List Int).getD i 0 < ([x, y] : List Int).getD j 0)), rfl,
    Walks.tuple (A := A.in1) t.room.h s.heap.objs.size a (Nat.ne_of_lt (Heap.lt_size ha)) vs.toArray, ⟨⟨_, Heap.get?_push_size _ rfl, rfl, rfl⟩, ⟨_, Heap.get?_push_of_some _ ha, rfl, _, rfl⟩⟩, ?_, by simp [hl], CmpOf.ints_lt (fun i => ([x, y] : List Int).getD i 0) (fun i v hv => int_at rl' i v (by simpa using hv)), ?_⟩))
  · intro b hb
    show b < (s.heap.push _).objs.size
    rw [push_size]
    rcases List.mem_cons.mp hb with rfl | hb
    · exact Nat.lt_succ_self _
    · rcases List.mem_cons.mp hb with rfl | hb
      · exact Nat.lt_succ_of_lt (Heap.lt_size ha)
      · cases hb
  · intro v h' tk hv hk hz
    refine ⟨.of (fun b o _ e => hk b o (fun q => ?_) (Heap.get?_push_of_some _ e)) hz, ?_⟩
    · exact Nat.lt_irrefl _ (List.mem_singleton.mp q ▸ Heap.lt_size e)
    · have hs : vs.toArray.size = 2 := by simp [hl]
      rw [hs] at hv
      obtain ⟨tk, e⟩ := int_at rl' (argBest (fun i j => decide (([x, y] : List Int).getD i 0 < ([x, y] : List Int).getD j 0)) (2 - 1)) v (by rw [← List.getElem?_toArray]; exact hv)
      have : ([x, y] : List Int).getD (argBest (fun i j => decide (([x, y] : List Int).getD i 0 < ([x, y] : List Int).getD j 0)) (2 - 1)) 0 = min x y := by
        simp only [argBest]
        by_cases q : y < x
        · simp [q]; omega
        · simp [q]; omega
      rw [e, this]; exact .int ..

/-! items -/
theorem idx_str {x : Str} {ch : Nat} {v sl : Expr} {i : Int} {pos : Pos} (hv : EvJ c env n ρ v (.str x)) (hi : EvJ c env n ρ sl (.int i)) (hz : -100 < i ∧ i < 100) (hx : (seqIndex? i x.length).bind (x.cps[·]?) = some ch)
    (hs : ∀ x t t', subscripted sl false (.str x t) (.int i t') = operate [.str x t, .int i t'] (getItem (.str x t) (.int i t')) := by intro _ _ _; with_unfolding_all rfl) (hg : ∀ x t r, letTemporaryGo v (.str x t) r = pure () := by intro _ _ _; with_unfolding_all rfl) :
    EvJ c env n ρ (.Subscript v sl pos) (.str ⟨#[ch]⟩) := fun A s X t => by
  refine Subscript_ (wpAny_mono (hv A s X t) (fun o s₁ q => wpAny_mono (hi A s₁ X (t.ext q.1)) (fun k s₂ q' => ?_) fun _ _ f => f.elim) fun _ _ f => f.elim)
  obtain ⟨e₁, r⟩ := q
  obtain ⟨e₂, r'⟩ := q'
  refine r'.el fun tk => ?_
  refine r.el fun ts => ?_
  refine subscriptTail_builtin (T := "str") (id := "str.__getitem__") (typeIs_str _ _ _) F.slot_str_getitem.lookup (P.getItem_str ?_ hx ⟨(e₁.trans e₂).trans (.toks ..), .str ..⟩) (hs _ _ _) (hg _ _)
  simp; omega

/-! slices -/
theorem slice_list {ds : List D} {v : Expr} {lo hi : Option Expr} {p pos : Pos} {es : List D} {l u : Option Int} (hv : EvJ c env n ρ v (.list ds))
    (hlo : (lo = none ∧ l = none) ∨ (∃ e k, lo = some e ∧ l = some k ∧ EvJ c env n ρ e (.int k))) (hhi : (hi = none ∧ u = none) ∨ (∃ e k, hi = some e ∧ u = some k ∧ EvJ c env n ρ e (.int k)))
    (hz : ds.length ≤ sizeLine)
    (hp : ∀ (vs : List Value) (X : Addr → Prop) (h : Heap), RepL c.prog c.w X h vs ds → ∃ ws, slicePick vs.toArray l u none = ws.toArray ∧ RepL c.prog c.w X h ws es)
    (ht : ∀ o r, letTemporaryGo v o r = pure () := by intro _ _; rfl) :
    EvJ c env n ρ (.Subscript v (.Slice lo hi none p) pos) (.list es) := fun A s X t => by
  have part : ∀ (o : Option Expr) (k : Option Int), ((o = none ∧ k = none) ∨ (∃ e j, o = some e ∧ k = some j ∧ EvJ c env n ρ e (.int j))) → ∀ s₁, St c env ρ n A X s₁ → wpAny (model c.prog c.w) A (evalPart o env) (fun w s₂ => Ext No s₁ s₂ ∧ IsPart w k) FF s₁ := by
    rintro o k (⟨rfl, rfl⟩ | ⟨e, j, rfl, rfl, h⟩) s₁ t₁
    · rw [evalPart_none]; exact wpAny_pure ⟨.refl .., .none⟩
    · rw [evalPart_some]
      refine wpAny_mono (h A s₁ X t₁) (fun w s₂ q => ⟨q.1, ?_⟩) fun _ _ f => f.elim
      obtain ⟨_, r⟩ := q
      (first | refine r.eg ?_ | refine r.eb ?_ | refine r.en ?_ | refine r.e0 ?_ | refine r.el fun _ => ?_ | cases r); exact .int ..
  refine wpAny_Subscript_list_slice (wpAny_mono (hv A s X t) (fun o s₁ q => wpAny_mono (part lo l hlo s₁ (t.ext q.1)) (fun vl s₂ ql => wpAny_mono (part hi u hhi s₂ ((t.ext q.1).ext ql.1)) (fun vu s₃ qu => ?_) fun _ _ f => f.elim) fun _ _ f => f.elim) fun _ _ f => f.elim) ht
  obtain ⟨e₁, r⟩ := q
  have e := (e₁.trans ql.1).trans qu.1
  refine r.el fun a vs k ha hX rl => ?_
  have e2 := ql.1.trans qu.1
  obtain ⟨ws, hw, rw'⟩ := hp vs X s₁.heap rl
  refine ⟨a, vs.toArray, l, u, rfl, ⟨_, e2.all _ _ ha, rfl, _, rfl⟩, by simp [rl.length]; exact hz, ql.2, qu.2, ?_⟩
  rw [hw]
  have e3 : Ext No s₃ { s₃ with heap := (s₃.heap.push { cls := .type "slice", data := .fields #[vl, vu, .none] }).push { cls := .type "list", data := .seq ws.toArray } } :=
    .of (fun b o _ eb => Heap.get?_push_of_some _ (Heap.get?_push_of_some _ eb)) (by rw [push_size, push_size]; omega)
  refine ⟨e.trans e3, .list (n := 0) ?_ (fun q => ?_) ((rw'.ext0 e2).ext0 e3)⟩
  · have : s₃.heap.objs.size + 1 = (s₃.heap.push { cls := .type "slice", data := .fields #[vl, vu, .none] }).objs.size := by rw [push_size]
    rw [this]; exact Heap.get?_push_size _ rfl
  · have h1 : s₃.heap.objs.size + 1 < s.heap.objs.size := t.x _ q
    have := e.size; omega
theorem slice_from {ds : List D} {v e : Expr} {p pos : Pos} {k : Nat} (hv : EvJ c env n ρ v (.list ds)) (he : EvJ c env n ρ e (.int k)) (hz : ds.length ≤ sizeLine)
    (ht : ∀ o r, letTemporaryGo v o r = pure () := by intro _ _; rfl) : EvJ c env n ρ (.Subscript v (.Slice (some e) none none p) pos) (.list (ds.drop k)) :=
  slice_list hv (.inr ⟨e, _, rfl, rfl, he⟩) (.inl ⟨rfl, rfl⟩) hz (fun vs X h r => ⟨vs.drop k, by rw [slicePick_from'], r.drop k⟩) ht
theorem slice_upto {ds : List D} {v e : Expr} {p pos : Pos} {k : Nat} (hv : EvJ c env n ρ v (.list ds)) (he : EvJ c env n ρ e (.int k)) (hz : ds.length ≤ sizeLine)
    (ht : ∀ o r, letTemporaryGo v o r = pure () := by intro _ _; rfl) : EvJ c env n ρ (.Subscript v (.Slice none (some e) none p) pos) (.list (ds.take k)) :=
  slice_list hv (.inl ⟨rfl, rfl⟩) (.inr ⟨e, _, rfl, rfl, he⟩) hz (fun vs X h r => ⟨vs.take k, by rw [slicePick_upto'], r.take k⟩) ht
end
end Mine
namespace Mine
section
variable {c : Wd} {env : Env} {ρ ρ' ρc : Ro} {n : Nat} {A : Around} {X W : Addr → Prop} {s s' : Shared} {R : FlowD → Prop}

/-! zip -/
noncomputable def zipW (z TO i1 i2 : Addr) : Addr → Prop := fun b => b = z ∨ b = TO ∨ b = i1 ∨ b = i2
structure ZipS (c : Wd) (X : Addr → Prop) (z TI TO i1 i2 l1 l2 : Addr) (xs ys : List Value) (k1 k2 : Nat) (ds es : List D) (i : Nat) (h : Heap) : Prop where
  ap : ZipApart z TI TO i1 i2 l1 l2
  hz : IsZip h z TI TO .none
  hTI : IsPair h TI (.ref i1) (.ref i2)
  hTO : ∃ a b, IsPair h TO a b
  h1 : h.IsListIter i1 l1 i
  h2 : h.IsListIter i2 l2 i
  hl1 : h.get? l1 = some { cls := .type "list", data := .seq xs.toArray k1 }
  hl2 : h.get? l2 = some { cls := .type "list", data := .seq ys.toArray k2 }
  r1 : RepL c.prog c.w (Un X (zipW z TO i1 i2)) h xs ds
  r2 : RepL c.prog c.w (Un X (zipW z TO i1 i2)) h ys es
  nx : ¬ X z ∧ ¬ X TI ∧ ¬ X TO ∧ ¬ X i1 ∧ ¬ X i2 ∧ ¬ X l1 ∧ ¬ X l2

noncomputable abbrev zipD (ds es : List D) : List D := (ds.zip es).map fun p => D.tup [p.1, p.2]

theorem zip_itr {elts : List Expr} {x1 : Nat} {tpos : Pos} {z TI TO i1 i2 l1 l2 : Addr} {xs ys : List Value} {k1 k2 : Nat} {ds es : List D} :
    Itr c n X (.Tuple elts x1 tpos) z (zipW z TO i1 i2) (zipD ds es) (ZipS c X z TI TO i1 i2 l1 l2 xs ys k1 k2 ds es) where
  frame := fun i h h' S q => by
    obtain ⟨n1, n2, n3, n4, n5, n6, n7⟩ := S.nx
    have mv : ∀ b o, ¬ Un X (zipW z TO i1 i2) b → h.get? b = some o → h'.get? b = some o ∧ ¬ Un X (zipW z TO i1 i2) b := fun b o nb e => ⟨q _ _ (fun z => nb (.inl z)) e, nb⟩
    exact ⟨S.ap, q _ _ n1 S.hz, q _ _ n2 S.hTI, let ⟨a, b, e⟩ := S.hTO; ⟨a, b, q _ _ n3 e⟩, let ⟨o, a, r⟩ := S.h1; ⟨o, q _ _ n4 a, r⟩, let ⟨o, a, r⟩ := S.h2; ⟨o, q _ _ n5 a, r⟩, q _ _ n6 S.hl1, q _ _ n7 S.hl2, S.r1.move mv, S.r2.move mv, S.nx⟩
  item := fun A i s d t S hd => by
    have hd2 : ∃ a b, ds[i]? = some a ∧ es[i]? = some b ∧ d = .tup [a, b] := by
      simp only [zipD, List.getElem?_map, Option.map_eq_some_iff] at hd
      obtain ⟨p, hp, e⟩ := hd
      have := List.getElem?_zip_eq_some.mp hp
      exact ⟨p.1, p.2, this.1, this.2, e.symm⟩
    obtain ⟨a, b, ha, hb, rfl⟩ := hd2
    obtain ⟨u, hu, ru⟩ := S.r1.get i a ha
    obtain ⟨v, hv, rv⟩ := S.r2.get i b hb
    obtain ⟨p, q, hTO⟩ := S.hTO
    refine wpAny_pyNext_zip_item S.ap S.hz S.hTI hTO S.h1 S.h2 ⟨_, S.hl1, rfl, _, rfl⟩ ⟨_, S.hl2, rfl, _, rfl⟩ (x := u) (y := v) (by simpa using hu) (by simpa using hv) fun h' a1 a2 a3 a4 a5 a6 hk => ?_
    have e₁ : Ext (zipW z TO i1 i2) s { s with heap := h' } := .of (t := s.toks) (fun b o nb e => hk b o (fun q => nb (.inl q)) (fun q => nb (.inr (.inl q))) (fun q => nb (.inr (.inr (.inl q)))) (fun q => nb (.inr (.inr (.inr q)))) e) (by rw [a6]; exact Nat.le_succ _)
    refine ⟨_, rfl, e₁, ?_⟩
    refine wpAny_letOwnedTupleGo_zip a1 fun h2 hz2 hs2 => ?_
    have e₂ : Ext (zipW z TO i1 i2) { s with heap := h' } { s with heap := h2 } := (Ext.same (s := { s with heap := h' }) (t := s.toks) hs2).mono fun _ _ q => .inl q
    have WX : ∀ b, zipW z TO i1 i2 b → Un X (zipW z TO i1 i2) b := fun b q => .inr q
    have e := e₁.trans e₂
    have lt : ∀ {c o}, s.heap.get? c = some o → s.heap.objs.size ≠ c := fun e => Nat.ne_of_gt (Heap.lt_size e)
    have D := S.ap
    refine ⟨e₂, ⟨S.ap, hz2, hs2.extBut _ _ D.TIz (hk _ _ D.TIz D.TITO D.TIi1 D.TIi2 S.hTI), ⟨_, _, hs2.extBut _ _ D.TOz a2⟩, a3.extBut hs2.extBut D.i1z, a4.extBut hs2.extBut D.i2z,
      hs2.extBut _ _ D.l1z (hk _ _ D.l1z D.l1TO D.l1i1 D.l1i2 S.hl1), hs2.extBut _ _ D.l2z (hk _ _ D.l2z D.l2TO D.l2i1 D.l2i2 S.hl2), S.r1.ext e WX, S.r2.ext e WX, S.nx⟩, ?_⟩
    refine .tup (vs := [u, v]) (n := 0) (hs2.extBut _ _ (lt S.hz) a5) (fun q => ?_) (.cons (ru.ext e WX) (.cons (rv.ext e WX) .nil))
    exact Nat.lt_irrefl _ (t.x _ q)
  done := fun A s t S => by
    obtain ⟨p, q, hTO⟩ := S.hTO
    refine wpAny_withsize (wpAny_pyNext_zip_end t.room.h S.ap S.hz S.hTI hTO S.h1 S.h2 ⟨_, S.hl1, rfl, _, rfl⟩ ⟨_, S.hl2, rfl, _, rfl⟩ ?_ fun h' hk z => ⟨rfl, .of (fun b o nb e => hk b o (fun q => nb (.inl q)) (fun q => nb (.inr (.inl q))) (fun q => nb (.inr (.inr (.inl q)))) (fun q => nb (.inr (.inr (.inr q)))) e) z⟩)
    have l1 := S.r1.length
    have l2 := S.r2.length
    simp only [zipD, List.length_map, List.length_zip]
    rcases Nat.le_total ds.length es.length with q | q
    · left; rw [Nat.min_eq_left q]; simp [l1]
    · right; rw [Nat.min_eq_right q]; simp [l2]
  self := fun A i s t S => wpAny_pyIter_zip S.hz ⟨rfl, .refl ..⟩

theorem IterJ.zip {e₁ e₂ : Expr} {elts : List Expr} {x1 : Nat} {tpos p pos : Pos} {f : Str} {ds es : List D} (hf : (f, D.glob (.type "zip")) ∈ ρ) (h₁ : EvJ c env n ρ e₁ (.list ds)) (h₂ : EvJ c env n ρ e₂ (.list es))
    (he : starEach [e₁, e₂] env = (false, eval e₁ env) :: starEach [e₂] env := by rfl) (he2 : starEach [e₂] env = (false, eval e₂ env) :: starEach [] env := by rfl) (hd : (f == ("__debug__" : Str)) = false := by decide)
    (hpl : (backTo pos (starEach [e₂] env)).any (·.1) = false := by rfl) :
    IterJ c env n ρ (.Call (.Name f p) [e₁, e₂] [] pos) (.Tuple elts x1 tpos) (zipD ds es) := fun A s X t => by
  refine PyProof.Rows.Call_ (wpAny_mono (EvJ.name hf hd A s X t) (fun v s₁ q => ?_) fun _ _ f => f.elim) (by rfl)
  obtain ⟨x, r⟩ := q
  (first | refine r.eg ?_ | refine r.eb ?_ | refine r.en ?_ | refine r.e0 ?_ | refine r.el fun _ => ?_ | cases r)
  refine PyProof.Rows.callWith_type1 ?_ he hpl
  refine wpAny_items_cons (wpAny_mono (h₁ A s₁ X (t.ext x)) (fun v s₂ q => ?_) fun _ _ f => f.elim) he
  obtain ⟨y₂, r₂⟩ := q
  refine wpAny_items_cons (wpAny_mono (h₂ A s₂ X ((t.ext x).ext y₂)) (fun u s₃ q => wpAny_items_nil ?_) fun _ _ f => f.elim) he2
  obtain ⟨y₃, r₃⟩ := q
  have r₂ := r₂.ext0 y₃
  have eA : Ext No s s₃ := (x.trans y₂).trans y₃
  refine r₂.el fun l1 xs k1 ha1 hX1 rl1 => ?_
  refine r₃.el fun l2 ys k2 ha2 hX2 rl2 => ?_
  refine call_zip_2 ⟨_, ha1, rfl, _, rfl⟩ ⟨_, ha2, rfl, _, rfl⟩ fun h' a1 a2 a3 a4 a5 a6 hk => ?_
  refine wpAny_pyIter_zip a1 ?_
  have e₄ : Ext No s₃ { s₃ with heap := h' } := .of (t := s₃.toks) (fun b o _ e => hk b o e) (by rw [a6]; omega)
  have hb := eA.size
  refine ⟨eA.trans e₄, s₃.heap.objs.size + 4, zipW (s₃.heap.objs.size + 4) (s₃.heap.objs.size + 3) s₃.heap.objs.size (s₃.heap.objs.size + 1), rfl, ?_, fun X' hX' => ⟨ZipS c X' (s₃.heap.objs.size + 4) (s₃.heap.objs.size + 2) (s₃.heap.objs.size + 3) s₃.heap.objs.size (s₃.heap.objs.size + 1) l1 l2 xs ys k1 k2 ds es, ?_, zip_itr⟩⟩
  · intro b q
    show _ ∧ b < h'.objs.size
    rw [a6]
    rcases q with rfl | rfl | rfl | rfl <;> exact ⟨by omega, by omega⟩
  · have z1 := Heap.lt_size ha1
    have z2 := Heap.lt_size ha2
    have up : ∀ b, @LT.lt Nat _ b (s₃.heap.objs.size + 5) → ¬ X b → ¬ X' b := fun b hb nx q => (hX' b q).elim nx fun q => by
      have q : h'.objs.size ≤ b := q
      rw [a6] at q; exact Nat.lt_irrefl _ (Nat.lt_of_lt_of_le hb q)
    have nX : ∀ b, s₃.heap.objs.size ≤ b → ¬ X b := fun b hb' q => Nat.lt_irrefl _ (Nat.lt_of_lt_of_le (t.x b q) (Nat.le_trans hb hb'))
    have mv : ∀ b o, ¬ X b → s₃.heap.get? b = some o → h'.get? b = some o ∧ ¬ Un X' (zipW (s₃.heap.objs.size + 4) (s₃.heap.objs.size + 3) s₃.heap.objs.size (s₃.heap.objs.size + 1)) b := fun b o nb e => by
      have hlt : @LT.lt Nat _ b s₃.heap.objs.size := Heap.lt_size e
      refine ⟨hk _ _ e, fun q => q.elim (up b (by omega) nb) fun q => ?_⟩
      rcases q with rfl | rfl | rfl | rfl <;> omega
    have z1 : @LT.lt Nat _ l1 s₃.heap.objs.size := z1
    have z2 : @LT.lt Nat _ l2 s₃.heap.objs.size := z2
    refine ⟨⟨?_, ?_, ?_, ?_, ?_, ?_, ?_, ?_, ?_, ?_, ?_, ?_, ?_, ?_, ?_, ?_, ?_, ?_⟩, a1, a2, ⟨_, _, a3⟩, a4, a5, hk _ _ ha1, hk _ _ ha2, rl1.move mv, rl2.move mv, up _ (by omega) (nX _ (by omega)), up _ (by omega) (nX _ (by omega)), up _ (by omega) (nX _ (by omega)), up _ (by omega) (nX _ (by omega)), up _ (by omega) (nX _ (by omega)), up _ (by omega) hX1, up _ (by omega) hX2⟩ <;> (first | exact Nat.ne_of_gt (by omega) | exact Nat.ne_of_lt (by omega))

/-! methods -/
noncomputable def GetM (c : Wd) (n : Nat) (d : D) (name : Str) (id : String) : Prop := ∀ A s X v pl, Sv c n A X s → Rep c.prog c.w X s.heap v d →
  wpAny (model c.prog c.w) A (getMethod v name pl) (fun fx s' => s' = s ∧ fx = (.builtin id, [v])) FF s

theorem ev_meth {o : Expr} {name : Str} {apos pos : Pos} {args : List Expr} {id : String} {d₀ d : D} {ds : List D} {pl : Sem Bool} (ho : EvJ c env n ρ o d₀) (hs : EvL c env n ρ args ds) (hm : GetM c n d₀ name id) (hf : FnJ c (.builtin id) n (d₀ :: ds) d)
    (hns : NoStar (backTo pos (starEach args env)) := by first | exact .inr ⟨_, _, rfl⟩ | exact .inl rfl) (hpl : (backTo pos (starEach args env)).any (·.1) = false := by rfl)
    (he : eval (.Call (.Attribute o name apos) args [] pos) env = (do
      let ov ← eval o env
      standAt apos.atName
      let (f, first) ← holding [ov] (getMethod ov name pl)
      callWith pos f first (backTo pos (starEach args env)) []) := by rfl) :
    EvJ c env n ρ (.Call (.Attribute o name apos) args [] pos) d := fun A s X t => by
  refine MethodCall_ (wpAny_mono (ho A s X t) (fun v s₁ q => wpAny_mono (hm A s₁ X v pl (t.ext q.1).sv q.2) (fun fx s₂ q' => ?_) fun _ _ f => f.elim) fun _ _ f => f.elim) he
  obtain ⟨rfl, rfl⟩ := q'
  obtain ⟨e₁, r⟩ := q
  refine callWith_builtin hpl (evalArgs_any hns (wpAny_mono (hs A s₂ X pos (t.ext e₁)) (fun vs s₃ q => ?_) fun _ _ f => f.elim))
  exact wpAny_mono (hf A s₃ X (v :: vs) ((t.ext e₁).ext q.1).sv (.cons (r.ext0 q.1) q.2)) (fun u s₄ q' => ⟨(e₁.trans q.1).trans q'.1, q'.2⟩) fun _ _ f => f.elim
end
end Mine
namespace Mine

/-! data that holds no list, no dict and no object -/
mutual
inductive Imm : D → Prop
  | none : Imm .none
  | bool (b : Bool) : Imm (.bool b)
  | int (i : Int) : Imm (.int i)
  | str (x : Str) : Imm (.str x)
  | tup {ds : List D} : ImmL ds → Imm (.tup ds)
inductive ImmL : List D → Prop
  | nil : ImmL []
  | cons {d : D} {ds : List D} : Imm d → ImmL ds → ImmL (d :: ds)
end

section
variable {prog : Program} {w : World} {X W : Addr → Prop} {h : Heap}
mutual
theorem Rep.lock (hW : ∀ b o, W b → h.get? b = some o → o.cls ≠ .type "tuple") : ∀ {d : D}, Imm d → ∀ {v : Value}, Rep prog w X h v d → Rep prog w (Un X W) h v d
  | _, .none, _, r => r.en .none
  | _, .bool b, _, r => r.eb (.bool b)
  | _, .int i, _, r => r.el fun t => .int i t
  | _, .str x, _, r => r.el fun t => .str x t
  | _, .tup m, _, r => r.el fun _ _ _ e x r => .tup e (fun q => q.elim x fun q => hW _ _ q e rfl) (RepL.lock hW m r)
theorem RepL.lock (hW : ∀ b o, W b → h.get? b = some o → o.cls ≠ .type "tuple") : ∀ {d : List D}, ImmL d → ∀ {v : List Value}, RepL prog w X h v d → RepL prog w (Un X W) h v d
  | _, .nil, _, r => r.e0 .nil
  | _, .cons a m, _, r => r.ec fun _ _ b r => .cons (Rep.lock hW a b) (RepL.lock hW m r)
end
end

theorem Ok.extZ {hb : Heap} {M : Addr → Prop} {s s' : Shared} (o : Ok hb s) (x : Ext M s s') (k : ∀ b, M b → hb.get? b = none) : Ok hb s' :=
  ⟨fun b ob e => x.keep b ob (fun q => by rw [k b q] at e; cases e) (o.keep b ob e), Nat.le_trans o.size x.size, x.gens o.gens⟩
theorem get_none_le {hb : Heap} {b : Addr} (h : hb.objs.size ≤ b) : hb.get? b = none := Heap.get?_none_of_le h

/-- old addresses that may change all the same, and what holds of them -/
structure Zt (c : Wd) where
  Z : Addr → Prop
  Inv : Heap → Prop
  none : ∀ b, Z b → c.hb.get? b = none
  lt : ∀ b, Z b → b < c.hb.objs.size
  keep : ∀ h h' : Heap, (∀ b o, b < c.hb.objs.size → h.get? b = some o → h'.get? b = some o) → Inv h → Inv h'
noncomputable def Zt.nil (c : Wd) : Zt c := ⟨fun _ => False, fun _ => True, fun _ q => q.elim, fun _ q => q.elim, fun _ _ _ _ => trivial⟩
theorem Zt.ext {c : Wd} (z : Zt c) {M : Addr → Prop} {s s' : Shared} (i : z.Inv s.heap) (e : Ext M s s') (k : ∀ b, M b → c.hb.objs.size ≤ b) : z.Inv s'.heap :=
  z.keep _ _ (fun b o hb e' => e.keep b o (fun q => Nat.lt_irrefl _ (Nat.lt_of_lt_of_le hb (k b q))) e') i
theorem Zt.ext0 {c : Wd} (z : Zt c) {s s' : Shared} (i : z.Inv s.heap) (e : Ext No s s') : z.Inv s'.heap := z.ext i e fun _ q => q.elim

/-! one owned object -/
noncomputable def Holds (c : Wd) (X : Addr → Prop) (a : Addr) (h : Heap) : D → Prop
  | .list ds => ∃ vs k, h.get? a = some { cls := .type "list", data := .seq (List.toArray vs) k } ∧ RepL c.prog c.w X h vs ds
  | .dict kds => ∃ kvs ep, h.DictAt (strKind c.prog c.w) a kvs ep ∧ (a == sysModules) = false ∧ RepK c.prog c.w X h kvs kds
  | _ => False

noncomputable abbrev Less (X : Addr → Prop) (a : Addr) : Addr → Prop := fun b => X b ∧ b ≠ a

noncomputable abbrev ZAt {c : Wd} (z : Zt c) (env : Env) (a : Addr) : Addr → Prop := fun b => At env a b ∨ z.Z b

structure StO (c : Wd) (z : Zt c) (env : Env) (ρ : Ro) (n : Nat) (A : Around) (X : Addr → Prop) (x : Str) (a : Addr) (d : D) (s : Shared) : Prop where
  st : St c env ((x, .glob (.ref a)) :: ρ) n A X s
  xa : X a
  la : ¬ LocA env a
  lo : c.hb.objs.size ≤ a
  holds : Holds c X a s.heap d
  zx : ∀ b, z.Z b → X b
  inv : z.Inv s.heap

inductive FlowO where
  | next (ρ : Ro) (d : D)
  | ret (d : D)

noncomputable def OutO (c : Wd) (env : Env) (X : Addr → Prop) (x : Str) (a : Addr) (f : Flow) (s : Shared) : FlowO → Prop
  | .next ρ d => f = .next ∧ EnvOk c env ((x, .glob (.ref a)) :: ρ) X s.heap ∧ Holds c X a s.heap d
  | .ret d => ∃ v, f = .ret v ∧ Rep c.prog c.w (Less X a) s.heap v d

noncomputable def ExO (c : Wd) (z : Zt c) (env : Env) (n : Nat) (ρ : Ro) (x : Str) (d : D) (ss : List Stmt) (R : FlowO → Prop) : Prop := ∀ A s X a, StO c z env ρ n A X x a d s →
  wpAny (model c.prog c.w) A (execs ss env) (fun f s' => Ext (ZAt z env a) s s' ∧ z.Inv s'.heap ∧ ∃ r, R r ∧ OutO c env X x a f s' r) FF s
noncomputable def Ex1O (c : Wd) (z : Zt c) (env : Env) (n : Nat) (ρ : Ro) (x : Str) (d : D) (st : Stmt) (R : FlowO → Prop) : Prop := ∀ A s X a, StO c z env ρ n A X x a d s →
  wpAny (model c.prog c.w) A (exec st env) (fun f s' => Ext (ZAt z env a) s s' ∧ z.Inv s'.heap ∧ ∃ r, R r ∧ OutO c env X x a f s' r) FF s

section
variable {c : Wd} {z : Zt c} {env : Env} {ρ ρ' : Ro} {n : Nat} {A : Around} {X W : Addr → Prop} {s s' : Shared} {x : Str} {a : Addr} {d : D} {R R' : FlowO → Prop}

theorem Loc.locA {b : Addr} (q : Loc env b) : LocA env b := q.imp id fun q => q.2

theorem Holds.move {X' : Addr → Prop} {h h' : Heap} (k : ∀ b o, (¬ X b ∨ b = a) → h.get? b = some o → h'.get? b = some o ∧ (¬ X b → ¬ X' b)) : ∀ {d : D}, Holds c X a h d → Holds c X' a h' d
  | .list ds, ⟨vs, n, h1, h2⟩ => ⟨vs, n, (k _ _ (.inr rfl) h1).1, h2.move fun b o nb e => let ⟨x, y⟩ := k b o (.inl nb) e; ⟨x, y nb⟩⟩
  | .dict kds, ⟨kvs, ep, h1, h2, h3⟩ => ⟨kvs, ep, h1.at fun o e => (k _ _ (.inr rfl) e).1, h2, h3.move fun b o nb e => let ⟨x, y⟩ := k b o (.inl nb) e; ⟨x, y nb⟩⟩
theorem Holds.ext {M : Addr → Prop} (h : Holds c X a s.heap d) (e : Ext M s s') (k : ∀ b, M b → X b) (ha : ¬ M a) : Holds c X a s'.heap d :=
  h.move fun b o q eb => ⟨e.keep b o (fun m => q.elim (fun q => q (k b m)) fun q => ha (by rw [← q]; exact m)) eb, fun q => q⟩
theorem Holds.less {X' : Addr → Prop} {h : Heap} (x : Holds c X a h d) (k : ∀ b, X' b → X b) : Holds c X' a h d :=
  x.move fun b o q eb => ⟨eb, fun nb q => nb (k b q)⟩
theorem Holds.not_tuple {h : Heap} {o : Obj} (x : Holds c X a h d) (e : h.get? a = some o) : o.cls ≠ .type "tuple" := by
  cases d with
  | list ds => obtain ⟨vs, k, h1, _⟩ := x; rw [e] at h1; cases h1; intro q; injection q with q; revert q; decide
  | dict kds => obtain ⟨kvs, ep, ⟨o', es, h1, h2, _⟩, _⟩ := x; rw [e] at h1; cases h1; intro q; have := h2.1; rw [q] at this; revert this; decide
  | _ => exact x.elim
theorem Holds.rep {h : Heap} (x : Holds c X a h d) : Rep c.prog c.w (Less X a) h (.ref a) d := by
  cases d with
  | list ds => obtain ⟨vs, k, h1, h2⟩ := x; exact .list h1 (fun q => q.2 rfl) (h2.move fun b o nb e => ⟨e, fun q => nb q.1⟩)
  | dict kds => obtain ⟨kvs, ep, h1, h2, h3⟩ := x; exact .dict h1 (fun q => q.2 rfl) h2 (h3.move fun b o nb e => ⟨e, fun q => nb q.1⟩)
  | _ => exact x.elim

theorem StO.loc (t : StO c z env ρ n A X x a d s) : ∀ b, At env a b → X b := fun b q => q.elim (t.st.env.toFrm.loc b) fun q => q ▸ t.xa
theorem StO.locZ (t : StO c z env ρ n A X x a d s) : ∀ b, ZAt z env a b → X b := fun b q => q.elim (t.loc b) (t.zx b)
theorem StO.lo' (t : StO c z env ρ n A X x a d s) : ∀ b, At env a b → c.hb.objs.size ≤ b := fun b q => q.elim (t.st.env.toFrm.lo' b) fun q => q ▸ t.lo
theorem StO.noneZ (t : StO c z env ρ n A X x a d s) : ∀ b, ZAt z env a b → c.hb.get? b = none := fun b q => q.elim (fun q => get_none_le (t.lo' b q)) (z.none b)
theorem Ext.toZ (e : Ext (At env a) s s') : Ext (ZAt z env a) s s' := e.mono fun _ _ q => .inl q

theorem StO.free (t : StO c z env ρ n A X x a d s) : St c env ((x, d) :: ρ) n A (Less X a) s := by
  refine ⟨t.st.room, t.st.ok, fun b q => t.st.x b q.1, ⟨⟨t.st.env.kind, t.st.env.glob, t.st.env.blt, t.st.env.ns, ⟨t.st.env.xl, fun q => t.la (.inl q.symm)⟩, t.st.env.lo, fun m b e => ?_, t.st.env.inj⟩, fun y dy hy => ?_⟩⟩
  · obtain ⟨a1, a2, a3⟩ := t.st.env.cell m b e
    exact ⟨a1, ⟨a2, fun q => t.la (.inr ⟨m, q ▸ e⟩)⟩, a3⟩
  · rcases List.mem_cons.mp hy with e | hy
    · obtain ⟨rfl, rfl⟩ := Prod.mk.inj e
      obtain ⟨v, q, r⟩ := t.st.env.val y _ (.head _)
      revert q; refine r.eg ?_; intro q
      exact ⟨_, q, t.holds.rep⟩
    · obtain ⟨v, q, r⟩ := t.st.env.val y dy (.tail _ hy)
      exact ⟨v, q, r.move fun b o nb e => ⟨e, fun q => nb q.1⟩⟩

/-- back under the lock -/
theorem StO.lock (t : StO c z env ρ n A X x a d s) (e : Ext No s s') {v : Value} {dv : D} (hi : Imm dv) (r : Rep c.prog c.w (Less X a) s'.heap v dv) : Rep c.prog c.w X s'.heap v dv := by
  have := r.lock (W := fun b => b = a) (fun b o q eb => (t.holds.ext e (fun _ q => q.elim) (fun q => q)).not_tuple (q ▸ eb)) hi
  exact this.move fun b o nb eb => ⟨eb, fun q => nb (if hb : b = a then .inr hb else .inl ⟨q, hb⟩)⟩

theorem StO.ext (t : StO c z env ρ n A X x a d s) (e : Ext No s s') : StO c z env ρ n A X x a d s' :=
  ⟨t.st.ext e, t.xa, t.la, t.lo, t.holds.ext e (fun _ q => q.elim) (fun q => q), t.zx, z.ext0 t.inv e⟩
theorem StO.move {d' : D} (t : StO c z env ρ n A X x a d s) (e : Ext (ZAt z env a) s s') (i : z.Inv s'.heap) (v : EnvOk c env ((x, .glob (.ref a)) :: ρ') X s'.heap) (h : Holds c X a s'.heap d') : StO c z env ρ' n A X x a d' s' :=
  ⟨⟨t.st.room, t.st.ok.extZ e t.noneZ, fun b q => Nat.lt_of_lt_of_le (t.st.x b q) e.size, v⟩, t.xa, t.la, t.lo, h, t.zx, i⟩
theorem StO.sub (t : StO c z env ρ n A X x a d s) (k : ∀ p ∈ ρ', p ∈ ρ) : StO c z env ρ' n A X x a d s :=
  ⟨t.st.sub fun p hp => by rcases List.mem_cons.mp hp with rfl | hp; exact .head _; exact .tail _ (k p hp), t.xa, t.la, t.lo, t.holds, t.zx, t.inv⟩

theorem ExO.nil (h : R (.next ρ d)) : ExO c z env n ρ x d [] R := fun A s X a t => wpAny_execs_nil ⟨.refl .., t.inv, _, h, rfl, t.st.env, t.holds⟩
theorem ExO.sub {ss : List Stmt} (h : ExO c z env n ρ' x d ss R) (k : ∀ p ∈ ρ', p ∈ ρ) : ExO c z env n ρ x d ss R := fun A s X a t => h A s X a (t.sub k)
theorem ExO.mono {ss : List Stmt} (h : ExO c z env n ρ x d ss R') (k : ∀ r, R' r → R r) : ExO c z env n ρ x d ss R := fun A s X a t =>
  wpAny_mono (h A s X a t) (fun f s₁ q => ⟨q.1, q.2.1, let ⟨r, a, b⟩ := q.2.2; ⟨r, k r a, b⟩⟩) fun _ _ f => f
theorem Ex1O.mono {st : Stmt} (h : Ex1O c z env n ρ x d st R') (k : ∀ r, R' r → R r) : Ex1O c z env n ρ x d st R := fun A s X a t =>
  wpAny_mono (h A s X a t) (fun f s₁ q => ⟨q.1, q.2.1, let ⟨r, a, b⟩ := q.2.2; ⟨r, k r a, b⟩⟩) fun _ _ f => f

theorem ExO.seq {st : Stmt} {ss : List Stmt} (h : Ex1O c z env n ρ x d st R') (hn : ∀ ρ' d', R' (.next ρ' d') → ExO c z env n ρ' x d' ss R) (hr : ∀ d, R' (.ret d) → R (.ret d)) : ExO c z env n ρ x d (st :: ss) R := fun A s X a t => by
  refine wpAny_execs_cons (wpAny_mono (h A s X a t) (fun f s₁ q => ?_) fun _ _ f => f)
  obtain ⟨e, i, r, hr', ho⟩ := q
  cases r with
  | next ρ' d' =>
    obtain ⟨rfl, ho, hh⟩ := ho
    exact wpAny_mono (hn ρ' d' hr' A s₁ X a (t.move e i ho hh)) (fun f s₂ q => ⟨e.trans q.1, q.2⟩) fun _ _ f => f
  | ret d =>
    obtain ⟨v, rfl, ho⟩ := ho
    exact ⟨e, i, _, hr d hr', v, rfl, ho⟩

theorem ExO.ret {e : Expr} {d' : D} {pos : Pos} {ss : List Stmt} (h : EvJ c env n ((x, d) :: ρ) e d') (hR : R (.ret d')) : ExO c z env n ρ x d (.Return (some e) pos :: ss) R :=
  ExO.seq (R' := (· = .ret d')) (fun A s X a t => wpAny_Return_some (wpAny_mono (h A s _ t.free) (fun v s₁ q => ⟨q.1.no, z.ext0 t.inv q.1, _, rfl, v, rfl, q.2⟩) fun _ _ f => f))
    (fun ρ' d' e => by cases e) (fun d e => by cases e; exact hR)

/-- the lock is opened for good -/
theorem Ex1O.of {st : Stmt} {R' : Addr → FlowD → Prop} (h : ∀ a, Ex1 c env n ((x, .glob (.ref a)) :: ρ) st (R' a)) (kn : ∀ a ρ'', R' a (.next ρ'') → ∃ ρ', (∀ p ∈ (x, .glob (.ref a)) :: ρ', p ∈ ρ'') ∧ R (.next ρ' d))
    (kr : ∀ a d', R' a (.ret d') → R (.ret d')) : Ex1O c z env n ρ x d st R := fun A s X a t => by
  refine wpAny_mono (h a A s X t.st) (fun f s₁ q => ?_) fun _ _ f => f
  obtain ⟨e, r, hr', ho⟩ := q
  refine ⟨e.mono fun _ _ q => .inl (.inl q), z.ext t.inv e t.st.env.toFrm.lo', ?_⟩
  cases r with
  | next ρ'' =>
    obtain ⟨ρ', k1, k2⟩ := kn a ρ'' hr'
    exact ⟨_, k2, ho.1, ho.2.sub k1, t.holds.ext e (fun b q => t.loc b (.inl q)) fun q => t.la q.locA⟩
  | ret d => obtain ⟨v, rfl, ho⟩ := ho; exact ⟨_, kr a d hr', v, rfl, ho.move fun b o nb e => ⟨e, fun q => nb q.1⟩⟩

theorem mem_swap {p q r : Str × D} {l : Ro} (h : r ∈ p :: q :: l) : r ∈ q :: p :: l := by
  rcases List.mem_cons.mp h with rfl | h
  · exact .tail _ (.head _)
  · rcases List.mem_cons.mp h with rfl | h
    · exact .head _
    · exact .tail _ (.tail _ h)

theorem store_locked {y : Str} {v : Value} {dv : D} (t : StO c z env ρ n A X x a d s) (hy : Own env y) (hyx : (x != y) = true) (r : Rep c.prog c.w X s.heap v dv) :
    wpAny (model c.prog c.w) A (storeName env y v) (fun _ s' => Ext (At env a) s s' ∧ EnvOk c env ((x, .glob (.ref a)) :: (y, dv) :: dropN y ρ) X s'.heap ∧ Holds c X a s'.heap d) FF s := by
  refine wpAny_mono (store_own t.st hy r) (fun _ s₁ q => ⟨q.1.mono fun _ _ q => .inl q, q.2.sub fun p hp => ?_, t.holds.ext q.1 (fun b q => t.loc b (.inl q)) fun q => t.la q.locA⟩) fun _ _ f => f
  have : dropN y ((x, .glob (.ref a)) :: ρ) = (x, .glob (.ref a)) :: dropN y ρ := List.filter_cons_of_pos (by simpa using hyx)
  rw [this]
  exact mem_swap hp

theorem Ex1O.assign {y : Str} {e : Expr} {d' : D} {p pos : Pos} (h : EvJ c env n ((x, d) :: ρ) e d') (hi : Imm d') (hy : Own env y) (hyx : (x != y) = true) (hs : swapsWith e (some (.Name y p)) pos.line env = pure false := by rfl) :
    Ex1O c z env n ρ x d (.Assign [.Name y p] e pos) (· = .next ((y, d') :: dropN y ρ) d) := fun A s X a t => by
  refine wpAny_Assign_Name (wpAny_mono (h A s _ t.free) (fun v s₁ q => ?_) fun _ _ f => f) hs
  exact wpAny_mono (store_locked (t.ext q.1) hy hyx (t.lock q.1 hi q.2)) (fun _ s₂ q' => ⟨q.1.no.trans q'.1.toZ, z.ext (z.ext0 t.inv q.1) q'.1 t.lo', _, rfl, rfl, q'.2⟩) fun _ _ f => f

theorem ExO.assign {y : Str} {e : Expr} {d' : D} {p pos : Pos} {ss : List Stmt} (h : EvJ c env n ((x, d) :: ρ) e d') (hi : Imm d') (hy : Own env y) (hyx : (x != y) = true) (hn : ExO c z env n ((y, d') :: dropN y ρ) x d ss R)
    (hs : swapsWith e (some (.Name y p)) pos.line env = pure false := by rfl) : ExO c z env n ρ x d (.Assign [.Name y p] e pos :: ss) R :=
  ExO.seq (Ex1O.assign h hi hy hyx hs) (fun ρ' d' e => by cases e; exact hn) (fun d e => by cases e)

/-! counting up and down -/
noncomputable def AugI (op : Operator) (i j : Int) : Option Int := match op with
  | .Add => some (i + j)
  | .Sub => some (i - j)
  | _ => none
theorem inplace_int {op : Operator} {i j k : Int} {t u : Tok} {M : Addr → Prop} (h : AugI op i j = some k) (Q : Value → Shared → Prop) (hQ : ∀ t', Q (.int k t') { s with toks := s.toks + 1 }) : wpAny (model c.prog c.w) A (inplaceOp op (.int i t) (.int j u)) Q FF s := by
  cases op <;> simp only [AugI, Option.some.injEq, reduceCtorEq] at h
  · subst h; exact PyProof.Rows.iadd_int (hQ _)
  · subst h; exact PyProof.Rows.isub_int (hQ _)

theorem load_of {v : Value} {y : Str} {Q : Value → Shared → Prop} (t : St c env ρ n A X s) (hy : Own env y) (hn : NameIs c.mg c.mb env s.heap y v) (hq : Q v s) : wpAny (model c.prog c.w) A (loadName env y) Q FF s := by
  rcases hn with ⟨a, m, b, f⟩ | ⟨a, f, b, e⟩ | ⟨a, b⟩
  · exact wpAny_loadName_local t.env.kind a b f hq
  · exact wpAny_loadName_cell t.env.kind a b e hq
  · rcases hy with hy | ⟨hy, _⟩ <;> · rw [hy] at a; cases a

theorem Ex1.aug {y : Str} {e : Expr} {op : Operator} {i j k : Int} {p pos : Pos} (hy : Own env y) (hm : (y, D.int i) ∈ ρ) (h : EvJ c env n ρ e (.int j)) (ho : AugI op i j = some k) :
    Ex1 c env n ρ (.AugAssign (.Name y p) op e pos) (· = .next ((y, .int k) :: dropN y ρ)) := fun A s X t => by
  obtain ⟨v, hn, r⟩ := t.env.val y _ hm
  revert hn; refine r.el fun _ => ?_; intro hn
  refine wpAny_AugAssign_Name (load_of t hy hn (wpAny_mono (h A s X t) (fun v s₁ q => ?_) fun _ _ f => f))
  obtain ⟨e₁, r⟩ := q
  (first | refine r.eg ?_ | refine r.eb ?_ | refine r.en ?_ | refine r.e0 ?_ | refine r.el fun _ => ?_ | cases r)
  refine inplace_int (M := No) ho _ fun t' => ?_
  have e₂ : Ext No s₁ { s₁ with toks := s₁.toks + 1 } := .toks ..
  exact wpAny_mono (store_own ((t.ext e₁).ext e₂) hy (.int k t')) (fun _ s₂ q' => ⟨(e₁.trans e₂).no.trans q'.1, _, rfl, rfl, q'.2⟩) fun _ _ f => f
theorem ExJ.aug {y : Str} {e : Expr} {op : Operator} {i j k : Int} {p pos : Pos} {ss : List Stmt} {R : FlowD → Prop} (hy : Own env y) (hm : (y, D.int i) ∈ ρ) (h : EvJ c env n ρ e (.int j)) (ho : AugI op i j = some k)
    (hn : ExJ c env n ((y, .int k) :: dropN y ρ) ss R) : ExJ c env n ρ (.AugAssign (.Name y p) op e pos :: ss) R :=
  ExJ.seq (Ex1.aug hy hm h ho) (fun ρ' e => by cases e; exact hn) (fun d e => by cases e)
theorem ExO.aug {y : Str} {e : Expr} {op : Operator} {i j k : Int} {p pos : Pos} {ss : List Stmt} (hy : Own env y) (hyx : (x != y) = true) (hm : (y, D.int i) ∈ ρ) (h : EvJ c env n ρ e (.int j)) (ho : AugI op i j = some k)
    (hn : ExO c z env n ((y, .int k) :: dropN y ρ) x d ss R) : ExO c z env n ρ x d (.AugAssign (.Name y p) op e pos :: ss) R :=
  ExO.seq (R' := (· = .next ((y, .int k) :: dropN y ρ) d)) (Ex1O.of (fun a => Ex1.aug hy (.tail _ hm) (h.sub fun p hp => .tail _ hp) ho) (fun a ρ'' e => by
    cases e
    refine ⟨_, fun p hp => ?_, rfl⟩
    have : dropN y ((x, .glob (.ref a)) :: ρ) = (x, .glob (.ref a)) :: dropN y ρ := List.filter_cons_of_pos (by simpa using hyx)
    rw [this]
    exact mem_swap hp) (fun a d' e => by cases e)) (fun ρ' d' e => by cases e; exact hn) (fun d e => by cases e)

theorem Ex1O.if {test : Expr} {body orelse : List Stmt} {pos : Pos} {b : Bool} (h : TestJ c env n ((x, d) :: ρ) test b) (h₁ : b = true → ExO c z env n ρ x d body R) (h₂ : b = false → ExO c z env n ρ x d orelse R) :
    Ex1O c z env n ρ x d (.If test body orelse pos) R := fun A s X a t => by
  refine wpAny_If (wpAny_mono (h A s _ t.free) (fun v s₁ q => ?_) fun _ _ f => f)
  obtain ⟨e, rfl⟩ := q
  cases v with
  | true => exact wpAny_mono (h₁ rfl A s₁ X a (t.ext e)) (fun v s₂ q => ⟨e.no.trans q.1, q.2⟩) fun _ _ f => f
  | false => exact wpAny_mono (h₂ rfl A s₁ X a (t.ext e)) (fun v s₂ q => ⟨e.no.trans q.1, q.2⟩) fun _ _ f => f

/-! making -/
noncomputable def ExZ (c : Wd) (z : Zt c) (env : Env) (n : Nat) (ρ : Ro) (ss : List Stmt) (R : FlowD → Prop) : Prop := ∀ A s X, St c env ρ n A X s → (∀ b, z.Z b → X b) → z.Inv s.heap →
  wpAny (model c.prog c.w) A (execs ss env) (fun f s' => Ext (fun b => Loc env b ∨ z.Z b) s s' ∧ z.Inv s'.heap ∧ ∃ r, R r ∧ OutD c env X f s' r) FF s
theorem ExJ.ofZ {ss : List Stmt} {R : FlowD → Prop} (h : ExZ c (Zt.nil c) env n ρ ss R) : ExJ c env n ρ ss R := fun A s X t =>
  wpAny_mono (h A s X t (fun _ q => q.elim) trivial) (fun f s₁ q => ⟨q.1.mono fun _ _ q => q.elim id fun q => q.elim, q.2.2⟩) fun _ _ f => f

theorem own_enter {s₁ : Shared} {o : Obj} {ss : List Stmt} {R : FlowD → Prop} (t : St c env ρ n A X s) (zx : ∀ b, z.Z b → X b) (inv : z.Inv s.heap) (e₁ : Ext No s s₁) (hof : o.isFreed = false) (hx : Own env x)
    (hH : ∀ (s₂ : Shared) (X' : Addr → Prop), s₂.heap.get? s₁.heap.objs.size = some o → (∀ b o, ¬ X b → s₁.heap.get? b = some o → s₂.heap.get? b = some o ∧ ¬ X' b) → Holds c X' s₁.heap.objs.size s₂.heap d)
    (hn : ExO c z env n (dropN x ρ) x d ss R') (hR : ∀ d, R' (.ret d) → R (.ret d)) (hno : ∀ ρ' d', ¬ R' (.next ρ' d')) :
    wpAny (model c.prog c.w) A (storeName env x (.ref s₁.heap.objs.size)) (fun _ s₃ => wpAny (model c.prog c.w) A (execs ss env) (fun f s' => Ext (fun b => Loc env b ∨ z.Z b) s s' ∧ z.Inv s'.heap ∧ ∃ r, R r ∧ OutD c env X f s' r) FF s₃) FF { s₁ with heap := s₁.heap.push o } := by
  have sz := e₁.size
  have e₂ : Ext No s₁ { s₁ with heap := s₁.heap.push o } := .push s₁ _ s₁.toks
  have hget : (s₁.heap.push o).get? s₁.heap.objs.size = some o := Heap.get?_push_size _ hof
  generalize ha : s₁.heap.objs.size = a at *
  generalize hs₂ : ({ s₁ with heap := s₁.heap.push o } : Shared) = s₂ at *
  have hh : s₂.heap.get? a = some o := by rw [← hs₂]; exact hget
  have hlt : ∀ b, X b → b < s₁.heap.objs.size := fun b q => Nat.lt_of_lt_of_le (t.x b q) e₁.size
  have up : ∀ b o, ¬ X b → s₁.heap.get? b = some o → s₂.heap.get? b = some o ∧ ¬ (X b ∨ b = a) := fun b o nb e => ⟨e₂.all b o e, fun q => q.elim nb fun q => Nat.lt_irrefl _ (ha ▸ q ▸ Heap.lt_size e)⟩
  have tx : St c env ρ n A (fun b => X b ∨ b = a) s₂ := by
    have t₁ := t.ext e₁
    refine ⟨t.room, t₁.ok.ext0 e₂, fun b q => q.elim (fun q => Nat.lt_of_lt_of_le (hlt b q) e₂.size) (fun q => q ▸ Heap.lt_size hh), ?_⟩
    exact EnvOk.ext0 (s := s₁) (t₁.env.un (W := fun b => b = a) fun b q => by rw [q, ha]; exact Nat.le_refl _) e₂
  refine wpAny_mono (store_own tx hx (.glob (.ref a))) (fun _ s₃ q => ?_) fun _ _ f => f
  obtain ⟨e₃, ev⟩ := q
  have hal : ¬ LocA env a := fun q => Nat.lt_irrefl _ (ha ▸ hlt a (t.env.toFrm.locA a q))
  have ho : StO c z env (dropN x ρ) n A (fun b => X b ∨ b = a) x a d s₃ :=
    ⟨tx.move e₃ ev, .inr rfl, hal, Nat.le_trans t.ok.size sz, Holds.ext (hH s₂ _ hh up) e₃ (fun b q => .inl (t.env.toFrm.loc b q)) fun q => hal q.locA, fun b q => .inl (zx b q), z.ext (z.ext0 (z.ext0 inv e₁) e₂) e₃ t.env.toFrm.lo'⟩
  refine wpAny_mono (hn A s₃ _ a ho) (fun f s₄ q => ?_) fun _ _ f => f
  obtain ⟨e₄, i₄, r', hr, hout⟩ := q
  cases r' with
  | next ρ' d' => exact (hno _ _ hr).elim
  | ret d' =>
    obtain ⟨v, rfl, rv⟩ := hout
    refine ⟨⟨fun b o nb e => e₄.keep b o (fun q => q.elim (fun q => q.elim (fun q => nb (.inl q)) fun q => ?_) fun q => nb (.inr q)) (e₃.keep b o (fun q => nb (.inl q)) (e₂.all b o (e₁.all b o e))), Nat.le_trans e₁.size (Nat.le_trans e₂.size (Nat.le_trans e₃.size e₄.size)), e₄.os.trans (e₃.os.trans (e₂.os.trans e₁.os)), fun g => e₄.gens (e₃.gens (e₂.gens (e₁.gens g)))⟩, i₄, _, hR _ hr, v, rfl, rv.move fun b o nb e => ⟨e, fun q => nb ⟨.inl q, fun e => Nat.lt_irrefl _ (ha ▸ e ▸ hlt b q)⟩⟩⟩
    exact Nat.lt_irrefl _ (Nat.lt_of_lt_of_le (Heap.lt_size e) (q ▸ sz))

theorem ExZ.ownList {es : List Expr} {ds : List D} {p lp pos : Pos} {ss : List Stmt} {R : FlowD → Prop} (h : EvL c env n ρ es ds) (hx : Own env x)
    (hn : ExO c z env n (dropN x ρ) x (.list ds) ss R') (hR : ∀ d, R' (.ret d) → R (.ret d)) (hno : ∀ ρ' d', ¬ R' (.next ρ' d')) (hz : ds.length ≤ sizeLine := by decide) (hs : swapsWith (.List es lp) (some (.Name x p)) pos.line env = pure false := by rfl) :
    ExZ c z env n ρ (.Assign [.Name x p] (.List es lp) pos :: ss) R := fun A s X t zx inv => by
  refine wpAny_execs_cons (wpAny_Assign_Name (wpAny_List (wpAny_mono (h A s X lp t) (fun vs s₁ q => ⟨by rw [q.2.length]; exact hz, ?_⟩) fun _ _ f => f)) hs)
  exact own_enter (d := .list ds) t zx inv q.1 rfl hx (fun s₂ X' hg up => ⟨vs, 0, hg, q.2.move up⟩) hn hR hno

theorem Base.big : sysModules < c.hb.objs.size := modules_low c.base.nolimit
theorem not_modules (t : St c env ρ n A X s) (e : Ext No s s') : (s'.heap.objs.size == sysModules) = false := by
  have h1 := Base.big (c := c)
  have h2 := t.ok.size
  have h3 := e.size
  rw [beq_eq_false_iff_ne]
  intro q
  have q' : s'.heap.objs.size = (sysModules : Nat) := q
  have h1' : @LT.lt Nat _ sysModules c.hb.objs.size := h1
  omega

theorem ExZ.ownDict {p lp pos : Pos} {ss : List Stmt} {R : FlowD → Prop} (hx : Own env x)
    (hn : ExO c z env n (dropN x ρ) x (.dict []) ss R') (hR : ∀ d, R' (.ret d) → R (.ret d)) (hno : ∀ ρ' d', ¬ R' (.next ρ' d')) (hs : swapsWith (.Dict [] [] lp) (some (.Name x p)) pos.line env = pure false := by rfl) :
    ExZ c z env n ρ (.Assign [.Name x p] (.Dict [] [] lp) pos :: ss) R := fun A s X t zx inv => by
  refine wpAny_execs_cons (wpAny_Assign_Name (wpAny_Dict_empty ?_) hs)
  refine own_enter (d := .dict []) t zx inv (.refl ..) rfl hx (fun s₂ X' hg up => ?_) hn hR hno
  obtain ⟨o, ho, hd⟩ := Heap.dictOf_iff.mp (Heap.DictOf.new (knd := strKind c.prog c.w) s.heap)
  rw [Heap.get?_push_size _ rfl] at ho
  obtain ⟨ep, hd'⟩ := Heap.DictOf.dictAt (Heap.dictOf_iff.mpr ⟨_, hg, (Option.some.inj ho) ▸ hd⟩)
  exact ⟨[], ep, hd', not_modules t (.refl ..), .nil⟩

/-! changing -/
theorem setItem_exact {l : Addr} {items : Array Value} {m : Nat} {k : Int} {t : Tok} {v : Value} {Q : Unit → Shared → Prop} (ho : s.heap.get? l = some { cls := .type "list", data := .seq items m }) (h0 : 0 ≤ k) (hk : k < items.size) (hfit : k < 2 ^ 63)
    (hQ : ∀ h' m', h'.get? l = some { cls := .type "list", data := .seq (items.setIfInBounds k.toNat v) m' } → Heap.SameBut l s.heap h' → Q () { s with heap := h' }) :
    wpAny (model c.prog c.w) A (setItem (.ref l) (.int k t) v) Q FF s := by
  have hT : s.TypeIs (.ref l) "list" := ⟨_, ho, rfl⟩
  unfold setItem
  refine wpAny_holding ?_
  refine wpAny_bind (wpAny_sequenceKey hT (by decide) ?_)
  refine wpAny_bind (wpAny_callSpecial?_slot (name := Str.ofString "__setitem__") hT slot_list_setitem (wpAny_call_entry slot_list_setitem hT entry_list_setitem ?_ (args_list_setitem _ _ _)))
  have hfit' := fitsIndex_of h0 hfit
  clear hfit
  show wpAny _ _ (Builtin.List.listSubscript? (.int k t) >>= _) _ _ s
  refine wpAny_bind (wpAny_listSubscript_int hfit' ?_)
  clear hfit'
  obtain ⟨j, rfl⟩ := Int.eq_ofNat_of_zero_le h0
  have hj : j < items.size := by omega
  have hx : items[j]? = some items[j] := Array.getElem?_eq_getElem hj
  show wpAny _ _ ((seqItemAt l j >>= fun r => pure (r.map (j, ·))) >>= _) _ _ s
  refine wpAny_bind (wpAny_bind (wpAny_seqItemAt ho rfl (wpAny_pure ?_)))
  rw [hx]
  show wpAny _ _ (setSeqItemAt l j v >>= _) _ _ s
  refine wpAny_bind (wpAny_setSeqItemAt ho rfl ?_)
  have fin : (s.heap.update l (Obj.mapSeq (·.setIfInBounds j v))).get? l = some { cls := .type "list", data := .seq (items.setIfInBounds j v) m } := by
    have e : Obj.mapSeq (·.setIfInBounds j v) { cls := .type "list", data := .seq items m } = { cls := .type "list", data := .seq (items.setIfInBounds j v) m } := by
      simp [Obj.mapSeq]
    rw [Heap.get?_update_self _ ho (by rw [e]; rfl), e]
  first
    | exact wpAny_bind (wpAny_pure (wpAny_pure ⟨.none, rfl, wpAny_pure (hQ _ m fin (Heap.SameBut.update ..))⟩))
    | exact wpAny_pure ⟨.none, rfl, wpAny_pure (hQ _ m fin (Heap.SameBut.update ..))⟩

end
end Mine
namespace Mine

theorem RepL.set {prog : Program} {w : World} {X : Addr → Prop} {h : Heap} {v : Value} {d : D} (r₀ : Rep prog w X h v d) : ∀ {vs : List Value} {ds : List D} (i : Nat), RepL prog w X h vs ds → RepL prog w X h (vs.set i v) (ds.set i d)
  | _, _, _, .nil => .nil
  | _, _, 0, .cons a r => .cons r₀ r
  | _, _, i + 1, .cons a r => .cons a (RepL.set r₀ i r)

theorem RepK.keys {prog : Program} {w : World} {X : Addr → Prop} {h : Heap} : ∀ {kvs : List (Str × Value)} {kds : List (Str × D)}, RepK prog w X h kvs kds → kvs.map (·.1) = kds.map (·.1)
  | _, _, .nil => rfl
  | _, _, .cons _ r => by simp [RepK.keys r]
theorem RepK.length {prog : Program} {w : World} {X : Addr → Prop} {h : Heap} {kvs : List (Str × Value)} {kds : List (Str × D)} (r : RepK prog w X h kvs kds) : kvs.length = kds.length := by
  have := congrArg List.length r.keys; simpa using this
theorem RepK.put {prog : Program} {w : World} {X : Addr → Prop} {h : Heap} {k : Str} {v : Value} {d : D} (r₀ : Rep prog w X h v d) : ∀ {kvs : List (Str × Value)} {kds : List (Str × D)}, RepK prog w X h kvs kds →
    RepK prog w X h (kvs.map fun kv => if kv.1 = k then (kv.1, v) else kv) (kds.map fun kv => if kv.1 = k then (kv.1, d) else kv)
  | _, _, .nil => .nil
  | _, _, @RepK.cons _ _ _ _ k' v' vs d' ds a r => by
    simp only [List.map_cons]
    by_cases q : k' = k
    · rw [if_pos q, if_pos q]; exact .cons r₀ (RepK.put r₀ r)
    · rw [if_neg q, if_neg q]; exact .cons a (RepK.put r₀ r)
theorem RepK.append {prog : Program} {w : World} {X : Addr → Prop} {h : Heap} : ∀ {vs us : List (Str × Value)} {ds es : List (Str × D)}, RepK prog w X h vs ds → RepK prog w X h us es → RepK prog w X h (vs ++ us) (ds ++ es)
  | _, _, _, _, .nil, r => r
  | _, _, _, _, .cons a q, r => .cons a (RepK.append q r)
theorem RepK.anyKey {prog : Program} {w : World} {X : Addr → Prop} {h : Heap} {k : Str} {kvs : List (Str × Value)} {kds : List (Str × D)} (r : RepK prog w X h kvs kds) : (kvs.any fun kv => kv.1 = k) = (kds.any fun kv => kv.1 = k) := by
  have e1 : (kvs.any fun kv => kv.1 = k) = (kvs.map (·.1)).any fun y => y = k := by rw [List.any_map]; rfl
  have e2 : (kds.any fun kv => kv.1 = k) = (kds.map (·.1)).any fun y => y = k := by rw [List.any_map]; rfl
  rw [e1, e2, r.keys]
theorem RepK.stored {prog : Program} {w : World} {X : Addr → Prop} {h : Heap} {k : Str} {v : Value} {d : D} (r₀ : Rep prog w X h v d) {kvs : List (Str × Value)} {kds : List (Str × D)} (r : RepK prog w X h kvs kds) :
    RepK prog w X h (stored kvs k v) (if kds.any (fun kv => kv.1 = k) then kds.map (fun kv => if kv.1 = k then (kv.1, d) else kv) else kds ++ [(k, d)]) := by
  unfold PySem.stored
  rw [r.anyKey]
  split
  · exact r.put r₀
  · exact r.append (.cons r₀ .nil)

/-- what a store into a dict gives -/
noncomputable def putK {α : Type} (kds : List (Str × α)) (k : Str) (d : α) : List (Str × α) := if kds.any (fun kv => kv.1 = k) then kds.map (fun kv => if kv.1 = k then (kv.1, d) else kv) else kds ++ [(k, d)]

section
variable {c : Wd} {z : Zt c} {env : Env} {ρ ρ' : Ro} {n : Nat} {A : Around} {X W : Addr → Prop} {s s' : Shared} {x : Str} {a : Addr} {d : D} {R R' : FlowO → Prop}

/-- changing the owned object, all else as it was -/
theorem StO.change (t : StO c z env ρ n A X x a d s) {h' : Heap} {tk : Nat} {d' : D} (hs : Heap.SameBut a s.heap h') (hh : Holds c X a h' d') : Ext (At env a) s { s with heap := h', toks := tk } ∧ EnvOk c env ((x, .glob (.ref a)) :: ρ) X h' ∧ Holds c X a h' d' := by
  have e₂ : Ext (fun b => b = a) s { s with heap := h', toks := tk } := .same hs
  have k' : ∀ b, b = a → X b := fun b q => q ▸ t.xa
  have ev := t.st.env
  refine ⟨e₂.mono fun _ _ q => .inr q, ⟨⟨ev.kind, ev.glob, ev.blt, ev.ns.imp fun _ z => z.sameBut hs (fun q => t.la (.inl q.symm)), ev.xl, ev.lo, fun m b e => ?_, ev.inj⟩, fun y dy hy => ?_⟩, hh⟩
  · obtain ⟨⟨ov, a1⟩, a2⟩ := ev.cell m b e
    exact ⟨⟨ov, a1.sameBut hs fun q => t.la (.inr ⟨m, q ▸ e⟩)⟩, a2⟩
  · obtain ⟨u, q, r'⟩ := ev.val y dy hy
    refine ⟨u, ?_, r'.ext e₂ k'⟩
    rcases q with ⟨a1, m', b, e⟩ | ⟨a1, f, b, e⟩ | q
    · exact .inl ⟨a1, m', b.sameBut hs (fun q => t.la (.inl q.symm)), e⟩
    · exact .inr (.inl ⟨a1, f, b, e.sameBut hs fun q => t.la (.inr ⟨y, q ▸ b⟩)⟩)
    · exact .inr (.inr q)

theorem Ex1O.append {ds : List D} {e : Expr} {d' : D} {p ap pos spos : Pos} {pl : Sem Bool} (h : EvJ c env n ((x, .list ds) :: ρ) e d') (hi : Imm d') (hz : ds.length ≤ sizeLine) (hd : (x == ("__debug__" : Str)) = false := by decide)
    (hint : interactive env = false := by rfl) (hsw : swapsWith (.Call (.Attribute (.Name x p) "append" ap) [e] [] pos) none spos.line env = pure false := by rfl)
    (hns : NoStar (backTo pos (starEach [e] env)) := by first | exact .inr ⟨_, _, rfl⟩ | exact .inl rfl) (hpl : (backTo pos (starEach [e] env)).any (·.1) = false := by rfl) (hse : starEach [e] env = (false, eval e env) :: starEach [] env := by rfl)
    (he : eval (.Call (.Attribute (.Name x p) "append" ap) [e] [] pos) env = (do
      let ov ← eval (.Name x p) env
      standAt ap.atName
      let (f, first) ← holding [ov] (getMethod ov "append" pl)
      callWith pos f first (backTo pos (starEach [e] env)) []) := by rfl) :
    Ex1O c z env n ρ x (.list ds) (.Expr (.Call (.Attribute (.Name x p) "append" ap) [e] [] pos) spos) (· = .next ρ (.list (ds ++ [d']))) := fun A s X a t => by
  refine wpAny_Expr_any (MethodCall_ (wpAny_mono (EvJ.name (d := .glob (.ref a)) (.head _) hd A s X t.st) (fun v s₁ q => ?_) fun _ _ f => f) he) hint hsw
  obtain ⟨e₁, r⟩ := q
  (first | refine r.eg ?_ | refine r.eb ?_ | refine r.en ?_ | refine r.e0 ?_ | refine r.el fun _ => ?_ | cases r)
  have t₁ := t.ext e₁
  obtain ⟨vs, k, h1, h2⟩ := t₁.holds
  refine getMethod_list_append h1 rfl rfl ?_
  refine callWith_builtin hpl (evalArgs_any hns ?_)
  refine wpAny_mono ((EvL.cons h .nil hse) A s₁ _ pos t₁.free) (fun us s₂ q => ?_) fun _ _ f => f
  obtain ⟨e₂, r⟩ := q
  refine r.ec fun _ _ r0 r1 => ?_
  (first | refine r1.eg ?_ | refine r1.eb ?_ | refine r1.en ?_ | refine r1.e0 ?_ | refine r1.el fun _ => ?_ | cases r1)
  have t₂ := t₁.ext e₂
  have rx := t₁.lock e₂ hi r0
  obtain ⟨vs, k, h1, h2⟩ := t₂.holds
  refine wpAny_list_append_plain (items := vs.toArray) ⟨k, h1⟩ (fun h' hl' hs => ?_) (by simp [h2.length]; omega)
  obtain ⟨k'', hl'⟩ := hl'
  have key := t₂.change (tk := s₂.toks) (d' := .list (ds ++ [d'])) hs ⟨vs ++ [_], k'', by rw [hl']; simp, (h2.move fun b o nb eb => ⟨hs.extBut b o (fun q => nb (q ▸ t.xa)) eb, nb⟩).append (.cons (rx.move fun b o nb eb => ⟨hs.extBut b o (fun q => nb (q ▸ t.xa)) eb, nb⟩) .nil)⟩
  exact ⟨(e₁.trans e₂).no.trans key.1.toZ, z.ext (z.ext0 t.inv (e₁.trans e₂)) key.1 t.lo', _, rfl, rfl, key.2⟩

theorem Ex1O.setKey {kds : List (Str × D)} {k : Str} {e i : Expr} {d' : D} {p tp pos : Pos} (h : EvJ c env n ((x, .dict kds) :: ρ) e d') (hi : Imm d') (hk : EvJ c env n ((x, .dict kds) :: ρ) i (.str k)) (hz : kds.length ≤ sizeLine) (hd : (x == ("__debug__" : Str)) = false := by decide)
    (hs : swapsWith e (some (.Subscript (.Name x p) i tp)) pos.line env = pure false := by rfl) :
    Ex1O c z env n ρ x (.dict kds) (.Assign [.Subscript (.Name x p) i tp] e pos) (· = .next ρ (.dict (putK kds k d'))) := fun A s X a t => by
  refine wpAny_Assign_Subscript (wpAny_mono (h A s _ t.free) (fun v s₁ q => ?_) fun _ _ f => f) hs
  obtain ⟨e₁, r⟩ := q
  have t₁ := t.ext e₁
  have rx := t.lock e₁ hi r
  refine wpAny_mono (EvJ.name (d := .glob (.ref a)) (.head _) hd A s₁ X t₁.st) (fun o s₂ q => ?_) fun _ _ f => f
  obtain ⟨e₂, r⟩ := q
  (first | refine r.eg ?_ | refine r.eb ?_ | refine r.en ?_ | refine r.e0 ?_ | refine r.el fun _ => ?_ | cases r)
  have t₂ := t₁.ext e₂
  refine wpAny_mono (hk A s₂ _ t₂.free) (fun u s₃ q => ?_) fun _ _ f => f
  obtain ⟨e₃, r⟩ := q
  refine r.el fun tk => ?_
  have t₃ := t₂.ext e₃
  have rx := rx.ext0 (e₂.trans e₃)
  obtain ⟨kvs, ep, h1, h2, h3⟩ := t₃.holds
  refine wpAny_setItem_pairs (hsz := by rw [h3.length]; exact hz) (strKind_is _ _ k tk) h1.dictOf fun h' hm hs => ?_
  obtain ⟨ep', hm'⟩ := hm.dictAt
  have mv : ∀ b o, ¬ X b → s₃.heap.get? b = some o → h'.get? b = some o ∧ ¬ X b := fun b o nb eb => ⟨hs.extBut b o (fun q => nb (q ▸ t.xa)) eb, nb⟩
  have key := t₃.change (tk := s₃.toks + 1) (d' := .dict (putK kds k d')) hs ⟨_, ep', hm', h2, RepK.stored (rx.move mv) (h3.move mv)⟩
  exact ⟨((e₁.trans e₂).trans e₃).no.trans key.1.toZ, z.ext (z.ext0 t.inv ((e₁.trans e₂).trans e₃)) key.1 t.lo', _, rfl, rfl, key.2⟩

theorem Ex1O.augItem {ds : List D} {i e : Expr} {op : Operator} {j : Nat} {u v k : Int} {p tp pos : Pos} (hi : EvJ c env n ((x, .list ds) :: ρ) i (.int j)) (hj : ds[j]? = some (.int u)) (h : EvJ c env n ((x, .list ds) :: ρ) e (.int v)) (ho : AugI op u v = some k) (hz : ds.length < 1000000) (hd : (x == ("__debug__" : Str)) = false := by decide)
    (ha : ∀ ov iv new, augStore i ov iv new = (do holding [new, ov, iv] (setItem ov iv new); release [new, ov, iv] []; pure .next) := by intro _ _ _; rfl) :
    Ex1O c z env n ρ x (.list ds) (.AugAssign (.Subscript (.Name x p) i tp) op e pos) (· = .next ρ (.list (ds.set j (.int k)))) := fun A s X a t => by
  have hjl : j < ds.length := (List.getElem?_eq_some_iff.mp hj).1
  refine wpAny_AugAssign_Subscript_any (wpAny_mono (EvJ.name (d := .glob (.ref a)) (.head _) hd A s X t.st) (fun o s₁ q => ?_) fun _ _ f => f) ha
  obtain ⟨e₁, r⟩ := q
  (first | refine r.eg ?_ | refine r.eb ?_ | refine r.en ?_ | refine r.e0 ?_ | refine r.el fun _ => ?_ | cases r)
  have t₁ := t.ext e₁
  refine wpAny_mono (hi A s₁ _ t₁.free) (fun iv s₂ q => ?_) fun _ _ f => f
  obtain ⟨e₂, r⟩ := q
  refine r.el fun tk => ?_
  have t₂ := t₁.ext e₂
  obtain ⟨vs, m, h1, h2⟩ := t₂.holds
  obtain ⟨x0, hx0, rx0⟩ := h2.get j _ hj
  revert hx0; refine rx0.el fun tk0 => ?_; intro hx0
  refine wpAny_getItem_list ⟨_, h1, rfl, _, rfl⟩ (by omega) (by omega) (x := .int u tk0) (by simpa using hx0) ?_
  refine wpAny_mono (h A s₂ _ t₂.free) (fun ev s₃ q => ?_) fun _ _ f => f
  obtain ⟨e₃, r⟩ := q
  refine r.el fun tk1 => ?_
  refine inplace_int (M := No) ho _ fun t' => ?_
  have e₄ : Ext No s₃ { s₃ with toks := s₃.toks + 1 } := .toks ..
  have t₄ := (t₂.ext e₃).ext e₄
  obtain ⟨vs, m, h1, h2⟩ := t₄.holds
  refine setItem_exact h1 (by omega) (by simp [h2.length]; omega) (by omega) fun h' m' hg hs => ?_
  have mv : ∀ b o, ¬ X b → s₃.heap.get? b = some o → h'.get? b = some o ∧ ¬ X b := fun b o nb eb => ⟨hs.extBut b o (fun q => nb (q ▸ t.xa)) eb, nb⟩
  have key := t₄.change (tk := s₃.toks + 1) (d' := .list (ds.set j (.int k))) hs ⟨vs.set j (.int k t'), m', by rw [hg]; simp, RepL.set (.int k t') j (h2.move mv)⟩
  exact ⟨(((e₁.trans e₂).trans e₃).trans e₄).no.trans key.1.toZ, z.ext (z.ext0 t.inv (((e₁.trans e₂).trans e₃).trans e₄)) key.1 t.lo', _, rfl, rfl, key.2⟩
end
end Mine
namespace Mine
section
variable {c : Wd} {z : Zt c} {env : Env} {ρ ρ' : Ro} {n : Nat} {A : Around} {X W : Addr → Prop} {s s' : Shared} {x : Str} {a : Addr} {d : D}

theorem AsgJ.out {target : Expr} {dv : D} {ρ₁ ρ₂ ρ₀ : Ro} (h : AsgJ c env n ρ₀ target dv ρ₁) (k : ∀ p ∈ ρ₂, p ∈ ρ₁) : AsgJ c env n ρ₀ target dv ρ₂ := fun A s X v t r =>
  wpAny_mono (h A s X v t r) (fun _ s₁ q => ⟨q.1, q.2.sub k⟩) fun _ _ f => f
theorem StoresJ.out {ts : List Expr} {ds : List D} {ρ₁ ρ₂ ρ₀ : Ro} (h : StoresJ c env n ρ₀ ts ds ρ₁) (k : ∀ p ∈ ρ₂, p ∈ ρ₁) : StoresJ c env n ρ₀ ts ds ρ₂ := fun A s X vs t r =>
  wpAny_mono (h A s X vs t r) (fun _ s₁ q => ⟨q.1, q.2.sub k⟩) fun _ _ f => f

theorem Ex1O.for {R : FlowO → Prop} {target iter : Expr} {body : List Stmt} {pos : Pos} {ds : List D} (P : Nat → Ro → D → Prop) (hI : IterJ c env n ρ iter target ds) (h0 : P 0 ρ d)
    (turn : ∀ i di ρi dd, ds[i]? = some di → P i ρi dd → ∃ ρi', (∀ a, AsgJ c env n ((x, .glob (.ref a)) :: ρi) target di ((x, .glob (.ref a)) :: ρi')) ∧ ExO c z env n ρi' x dd body (fun r => match r with | .next ρ' d' => P (i + 1) ρ' d' | .ret d => R (.ret d)))
    (done : ∀ ρ' d', P ds.length ρ' d' → R (.next ρ' d'))
    (hs : ∀ x, foldedSetIterable iter env x = pure x := by intro _; rfl) : Ex1O c z env n ρ x d (.For target iter body [] pos) R := fun A s X a t => by
  have hAX : ∀ b, ZAt z env a b → X b := t.locZ
  have hxA : ∀ b, LocA env b → X b := t.st.env.toFrm.locA
  have hlo := t.noneZ
  refine wpAny_For (wpAny_mono (hI A s X (t.st.sub fun p hp => .tail _ hp)) (fun v s₁ q => wpAny_mono q (fun it s₂ q => ?_) fun _ _ f => f.elim) fun _ _ f => f.elim) hs
  obtain ⟨e₂, I, W, rfl, hW, it⟩ := q
  obtain ⟨S, hS, it⟩ := it X fun b q => .inl q
  have hWX : ∀ b, W b → X b → False := fun b q q' => Nat.lt_irrefl _ (Nat.lt_of_lt_of_le (t.st.x b q') (hW b q).1)
  have t₂ := t.ext e₂
  have eY : EnvOk c env ((x, .glob (.ref a)) :: ρ) (Un X W) s₂.heap := (t.st.env.un fun b q => (hW b q).1).ext0 e₂
  have hH : Holds c (Un X W) a s₂.heap d := t.holds.move fun b o q eb => ⟨e₂.all b o eb, fun nb w => w.elim nb fun w => Nat.lt_irrefl _ (Nat.lt_of_lt_of_le (Heap.lt_size eb) (hW b w).1)⟩
  obtain ⟨J, hJ⟩ : ∃ J : Nat → Shared → Prop, ∀ k s', J k s' ↔ ∃ i ρi dd, k = ds.length + 1 - i ∧ i ≤ ds.length ∧ P i ρi dd ∧ Ext (Un (ZAt z env a) W) s₂ s' ∧ Frm c.hb env X s'.heap ∧ EnvOk c env ((x, .glob (.ref a)) :: ρi) (Un X W) s'.heap ∧ Holds c (Un X W) a s'.heap dd ∧ S i s'.heap ∧ z.Inv s'.heap := ⟨_, fun _ _ => Iff.rfl⟩
  refine codeAny_for' J ?_ (ds.length + 1) ((hJ _ _).mpr ⟨0, ρ, d, rfl, Nat.zero_le _, h0, .refl .., t₂.st.env.toFrm, eY, hH, hS, t₂.inv⟩)
  intro k s' hk
  obtain ⟨i, ρi, dd, rfl, hi, hP, e', fr, ev, hh, hS', iv⟩ := (hJ k s').mp hk
  have okm : ∀ {s''}, Ext (Un (ZAt z env a) W) s₂ s'' → Ok c.hb s'' := fun e => t₂.st.ok.extZ e fun b q => q.elim (hlo b) fun q => get_none_le (Nat.le_trans t.st.ok.size (hW b q).1)
  have xm : ∀ {s''}, Ext (Un (ZAt z env a) W) s₂ s'' → ∀ a, Un X W a → a < s''.heap.objs.size := fun e a q => by
    rcases q with q | q
    · exact Nat.lt_of_lt_of_le (t₂.st.x a q) e.size
    · exact Nat.lt_of_lt_of_le (hW a q).2 e.size
  have sv : Sv c n A (Un X W) s' := ⟨t.st.room, okm e', xm e'⟩
  have fin : ∀ {s''}, Ext (Un (ZAt z env a) W) s₂ s'' → Ext (ZAt z env a) s s'' := fun e => by
    exact ⟨fun b o nb eb => e.keep b o (fun q => q.elim nb fun q => Nat.lt_irrefl _ (Nat.lt_of_lt_of_le (Heap.lt_size eb) (hW b q).1)) (e₂.all b o eb), Nat.le_trans e₂.size e.size, e.os.trans e₂.os, fun g => e.gens (e₂.gens g)⟩
  have hWlo : ∀ b, W b → c.hb.objs.size ≤ b := fun b q => Nat.le_trans t.st.ok.size (hW b q).1
  have hWa : ¬ W a := fun q => hWX a q t.xa
  have hWh : ∀ {s₁ s₂ : Shared} {d'}, Ext W s₁ s₂ → Holds c (Un X W) a s₁.heap d' → Holds c (Un X W) a s₂.heap d' := fun e h => h.ext e (fun b q => .inr q) hWa
  cases hd : ds[i]? with
  | none =>
    have hin : i = ds.length := by have := List.getElem?_eq_none_iff.mp hd; omega
    subst hin
    refine wpAny_mono (it.done A s' sv hS') (fun r s₃ q => ?_) fun _ _ f => f.elim
    obtain ⟨rfl, e₃⟩ := q
    have e4 := e'.trans (e₃.mono fun _ _ q => .inr q)
    exact ⟨fin e4, z.ext iv e₃ hWlo, _, done ρi dd hP, rfl, (EnvOk.extW fr ev e₃ hWX).back hxA, (hWh e₃ hh).less fun b q => .inl q⟩
  | some di =>
    have hlt : i < ds.length := (List.getElem?_eq_some_iff.mp hd).1
    obtain ⟨ρi', ha, hb⟩ := turn i di ρi dd hd hP
    refine wpAny_mono (it.item A i s' di sv hS' hd) (fun r s₃ q => ?_) fun _ _ f => f.elim
    obtain ⟨v, rfl, e₃, q⟩ := q
    refine wpAny_mono q (fun _ s₄ q => ?_) fun _ _ f => f.elim
    obtain ⟨e₄, hS₄, r₄⟩ := q
    have e5 : Ext W s' s₄ := e₃.trans e₄
    have e6 : Ext (Un (ZAt z env a) W) s₂ s₄ := e'.trans (e5.mono fun _ _ q => .inr q)
    have fr₄ := fr.extW e5 hWX
    have ev₄ := EnvOk.extW fr ev e5 hWX
    have t₄ : St c env ((x, .glob (.ref a)) :: ρi) n A (Un X W) s₄ := ⟨t.st.room, okm e6, xm e6, ev₄⟩
    refine wpAny_mono (ha a A s₄ _ v t₄ r₄) (fun _ s₅ q => ?_) fun _ _ f => f.elim
    obtain ⟨e₅, ev₅⟩ := q
    have t₅ : StO c z env ρi' n A (Un X W) x a dd s₅ := ⟨t₄.move e₅ ev₅, .inl t.xa, t.la, t.lo, (hWh e5 hh).ext e₅ (fun b q => .inl (t.loc b (.inl q))) fun q => t.la q.locA, fun b q => .inl (t.zx b q), z.ext (z.ext iv e5 hWlo) e₅ t.st.env.toFrm.lo'⟩
    refine wpAny_mono (hb A s₅ _ a t₅) (fun f s₆ q => ?_) fun _ _ f => f.elim
    obtain ⟨e₆, i₆, r, hr, ho⟩ := q
    have e56 : Ext (ZAt z env a) s₄ s₆ := (e₅.mono fun _ _ q => .inl (.inl q)).trans e₆
    have e7 : Ext (Un (ZAt z env a) W) s₂ s₆ := e6.trans (e56.mono fun _ _ q => .inl q)
    have keep : ∀ b o, ¬ X b → s₄.heap.get? b = some o → s₆.heap.get? b = some o := fun b o nb e => e56.keep b o (fun q => nb (hAX b q)) e
    cases r with
    | next ρ' d' =>
      obtain ⟨rfl, ho, hh'⟩ := ho
      exact ⟨ds.length + 1 - (i + 1), by omega, (hJ _ _).mpr ⟨i + 1, ρ', d', rfl, hlt, hr, e7, (ho.back hxA).toFrm, ho, hh', it.frame _ _ _ hS₄ keep, i₆⟩⟩
    | ret d' =>
      obtain ⟨u, rfl, ho⟩ := ho
      exact ⟨fin e7, i₆, _, hr, u, rfl, ho.move fun b o nb e => ⟨e, fun q => nb ⟨.inl q.1, q.2⟩⟩⟩

theorem Ex1O.while {R : FlowO → Prop} {test : Expr} {body : List Stmt} {pos : Pos} (P : Nat → Ro → D → Prop) {k₀ : Nat} (h0 : P k₀ ρ d)
    (turn : ∀ k ρi dd, P k ρi dd → ∃ b, TestJ c env n ((x, dd) :: ρi) test b ∧ (b = true → ExO c z env n ρi x dd body (fun r => match r with | .next ρ' d' => ∃ m, m < k ∧ P m ρ' d' | .ret d => R (.ret d))) ∧ (b = false → R (.next ρi dd))) :
    Ex1O c z env n ρ x d (.While test body [] pos) R := fun A s X a t => by
  refine wpAny_While (codeAny_whileLoop (fun k s' => ∃ ρi dd, P k ρi dd ∧ Ext (ZAt z env a) s s' ∧ StO c z env ρi n A X x a dd s') ?_ k₀ ⟨ρ, d, h0, .refl .., t⟩)
  rintro k s₁ ⟨ρi, dd, hP, e₁, t₁⟩
  obtain ⟨b, hb, h1, h2⟩ := turn k ρi dd hP
  refine wpAny_mono (hb A s₁ _ t₁.free) (fun v s₂ q => ?_) fun _ _ f => f.elim
  obtain ⟨e₂, rfl⟩ := q
  have t₂ := t₁.ext e₂
  cases v with
  | false => exact wpAny_execs_nil ⟨e₁.trans e₂.no, t₂.inv, _, h2 rfl, rfl, t₂.st.env, t₂.holds⟩
  | true =>
    refine wpAny_mono (h1 rfl A s₂ X a t₂) (fun f s₃ q => ?_) fun _ _ f => f.elim
    obtain ⟨e₃, i₃, r, hr, ho⟩ := q
    have e := (e₁.trans e₂.no).trans e₃
    cases r with
    | next ρ' d' =>
      obtain ⟨rfl, ho, hh⟩ := ho
      obtain ⟨m, hm, hP'⟩ := hr
      exact ⟨m, hm, ρ', d', hP', e, t₂.move e₃ i₃ ho hh⟩
    | ret d' =>
      obtain ⟨v, rfl, ho⟩ := ho
      exact ⟨e, i₃, _, hr, v, rfl, ho⟩

theorem Ex1.while {R : FlowD → Prop} {test : Expr} {body : List Stmt} {pos : Pos} (P : Nat → Ro → Prop) {k₀ : Nat} (h0 : P k₀ ρ)
    (turn : ∀ k ρi, P k ρi → ∃ b, TestJ c env n ρi test b ∧ (b = true → ExJ c env n ρi body (fun r => match r with | .next ρ' => ∃ m, m < k ∧ P m ρ' | .ret d => R (.ret d))) ∧ (b = false → R (.next ρi))) :
    Ex1 c env n ρ (.While test body [] pos) R := fun A s X t => by
  refine wpAny_While (codeAny_whileLoop (fun k s' => ∃ ρi, P k ρi ∧ Ext (Loc env) s s' ∧ St c env ρi n A X s') ?_ k₀ ⟨ρ, h0, .refl .., t⟩)
  rintro k s₁ ⟨ρi, hP, e₁, t₁⟩
  obtain ⟨b, hb, h1, h2⟩ := turn k ρi hP
  refine wpAny_mono (hb A s₁ _ t₁) (fun v s₂ q => ?_) fun _ _ f => f.elim
  obtain ⟨e₂, rfl⟩ := q
  have t₂ := t₁.ext e₂
  cases v with
  | false => exact wpAny_execs_nil ⟨e₁.trans e₂.no, _, h2 rfl, rfl, t₂.env⟩
  | true =>
    refine wpAny_mono (h1 rfl A s₂ X t₂) (fun f s₃ q => ?_) fun _ _ f => f.elim
    obtain ⟨e₃, r, hr, ho⟩ := q
    have e := (e₁.trans e₂.no).trans e₃
    cases r with
    | next ρ' =>
      obtain ⟨rfl, ho⟩ := ho
      obtain ⟨m, hm, hP'⟩ := hr
      exact ⟨m, hm, ρ', hP', e, t₂.move e₃ ho⟩
    | ret d' =>
      obtain ⟨v, rfl, ho⟩ := ho
      exact ⟨e, _, hr, v, rfl, ho⟩

/-- a try whose body raises nothing -/
theorem Ex1.try {R : FlowD → Prop} {body : List Stmt} {h₀ : ExceptHandler} {hs : List ExceptHandler} {pos : Pos} (h : ExJ c env n ρ body R) : Ex1 c env n ρ (.Try body (h₀ :: hs) [] [] pos) R := fun A s X t => by
  refine wpAny_Try_except (wpAny_mono (h A s X t) (fun f s₁ q => ?_) fun _ _ f => f.elim)
  cases f with
  | next => exact wpAny_execs_nil q
  | _ => exact q

theorem ExJ.one {R : FlowD → Prop} {st : Stmt} {ss : List Stmt} {ρ₁ : Ro} (h : Ex1 c env n ρ st (· = .next ρ₁)) (hn : ExJ c env n ρ₁ ss R) : ExJ c env n ρ (st :: ss) R :=
  ExJ.seq h (fun ρ' e => by cases e; exact hn) (fun d e => by cases e)
theorem ExO.one {R : FlowO → Prop} {st : Stmt} {ss : List Stmt} {ρ₁ : Ro} {d₁ : D} (h : Ex1O c z env n ρ x d st (· = .next ρ₁ d₁)) (hn : ExO c z env n ρ₁ x d₁ ss R) : ExO c z env n ρ x d (st :: ss) R :=
  ExO.seq h (fun ρ' d' e => by cases e; exact hn) (fun d e => by cases e)
theorem ExJ.last {R : FlowD → Prop} {st : Stmt} (h : Ex1 c env n ρ st R) : ExJ c env n ρ [st] R :=
  ExJ.seq h (fun ρ' e => ExJ.nil e) (fun d e => e)
theorem ExO.last {R : FlowO → Prop} {st : Stmt} (h : Ex1O c z env n ρ x d st R) : ExO c z env n ρ x d [st] R :=
  ExO.seq h (fun ρ' d' e => ExO.nil e) (fun d e => e)
end
end Mine
namespace Mine

theorem RepK.get {prog : Program} {w : World} {X : Addr → Prop} {h : Heap} : ∀ {kvs : List (Str × Value)} {kds : List (Str × D)} (i : Nat) (k : Str) (d : D), RepK prog w X h kvs kds → kds[i]? = some (k, d) → ∃ v, kvs[i]? = some (k, v) ∧ Rep prog w X h v d
  | _, _, _, _, _, .nil, e => by simp at e
  | _, _, 0, _, _, .cons a _, e => by simp at e; obtain ⟨rfl, rfl⟩ := e; exact ⟨_, rfl, a⟩
  | _, _, i + 1, _, _, .cons _ r, e => by simp at e; obtain ⟨v, h1, h2⟩ := RepK.get i _ _ r e; exact ⟨v, by simpa using h1, h2⟩

/-- what stands under a key -/
noncomputable def atK {α : Type} (kds : List (Str × α)) (k : Str) : Option α := (kds.find? fun kv => kv.1 = k).map (·.2)
theorem RepK.at {prog : Program} {w : World} {X : Addr → Prop} {h : Heap} {k : Str} : ∀ {kvs : List (Str × Value)} {kds : List (Str × D)}, RepK prog w X h kvs kds →
    (∀ d, atK kds k = some d → ∃ v, valueAt kvs k = some v ∧ Rep prog w X h v d) ∧ (atK kds k = none → valueAt kvs k = none)
  | _, _, .nil => ⟨fun d e => by simp [atK] at e, fun _ => rfl⟩
  | _, _, @RepK.cons _ _ _ _ k' v' vs d' ds a r => by
    have ih := RepK.at (k := k) r
    unfold atK valueAt at *
    simp only [List.find?_cons]
    by_cases q : k' = k
    · simp only [q, decide_true, Option.map_some, Option.some.injEq, reduceCtorEq, false_implies, and_true]
      rintro d rfl
      exact ⟨v', rfl, a⟩
    · simp only [q, decide_false]
      exact ih

section
variable {c : Wd} {env : Env} {ρ ρ' : Ro} {n : Nat} {A : Around} {X W : Addr → Prop} {s s' : Shared} {x : Str} {a : Addr} {d : D}

/-! dicts -/
theorem getM_dict {kds : List (Str × D)} {name : Str} {id : String} (slot : Slot "dict" name id) (hty : typeOf (.builtin id) = pure (.type "method_descriptor")) : GetM c n (.dict kds) name id := fun A s X v pl t r => by
  refine r.el fun _ _ _ hd hX hs rk => ?_
  exact getMethod_builtin hd.dictOf.typeIs F.plainAttrs_dict slot hty hd.dictOf.mapOf.noDict ⟨rfl, rfl⟩

theorem fn_dict_get {kds : List (Str × D)} {k : Str} {d₀ : D} : FnJ c (.builtin "dict.get") n [.dict kds, .str k, d₀] ((atK kds k).getD d₀) := fun A s X vs t r => by
  refine r.ec fun _ _ r0 r => ?_
  refine r.ec fun _ _ r1 r => ?_
  refine r.ec fun _ _ r2 r => ?_
  (first | refine r.eg ?_ | refine r.eb ?_ | refine r.en ?_ | refine r.e0 ?_ | refine r.el fun _ => ?_ | cases r)
  refine r1.el fun tk => ?_
  refine r0.el fun _ _ _ hd hX hs rk => ?_
  refine call_meetsIn F.slot_dict_get hd.dictOf.typeIs F.entry_dict_get (F.args_dict_get_3 _ _ _) (meets_dict_get_default (strKind c.prog c.w) _ (strKind_is _ _ k tk) hs _) ⟨_, hd.dictOf.mapOf, ?_⟩
  refine ⟨.toks .., ?_⟩
  have ht : Ext No s { s with toks := s.toks + 1 } := .toks ..
  cases hk : atK kds k with
  | some d => obtain ⟨v, hv, rv⟩ := rk.at.1 d hk; rw [hv]; exact rv
  | none => rw [rk.at.2 hk]; exact r2

theorem cmp_in_dict {kds : List (Str × D)} {k : Str} : CmpD c n .In (.str k) (.dict kds) (atK kds k).isSome := fun A s X v u t r q => by
  refine r.el fun tk => ?_
  refine q.el fun _ _ _ hd hX hs rk => ?_
  refine wpAny_in_of (strKind_is _ _ k tk) hs hd.dictOf.mapOf ⟨.toks .., ?_⟩
  cases hk : atK kds k with
  | some d => obtain ⟨v, hv, rv⟩ := rk.at.1 d hk; rw [hv]; rfl
  | none => rw [rk.at.2 hk]; rfl

theorem idx_dict {kds : List (Str × D)} {v sl : Expr} {k : Str} {d : D} {pos : Pos} (hv : EvJ c env n ρ v (.dict kds)) (hi : EvJ c env n ρ sl (.str k)) (hx : atK kds k = some d)
    (hs : ∀ a t, subscripted sl false (.ref a) (.str k t) = operate [.ref a, .str k t] (getItem (.ref a) (.str k t)) := by intro _ _; with_unfolding_all rfl) (hg : ∀ a r, letTemporaryGo v (.ref a) r = pure () := by intro _ _; with_unfolding_all rfl) :
    EvJ c env n ρ (.Subscript v sl pos) d := fun A s X t => by
  refine Subscript_ (wpAny_mono (hv A s X t) (fun o s₁ q => wpAny_mono (hi A s₁ X (t.ext q.1)) (fun _ s₂ q' => ?_) fun _ _ f => f.elim) fun _ _ f => f.elim)
  obtain ⟨e₁, r⟩ := q
  obtain ⟨e₂, r'⟩ := q'
  refine r'.el fun tk => ?_
  have r := r.ext0 e₂
  refine r.el fun _ _ _ hd hX hsm rk => ?_
  obtain ⟨u, hu, ru⟩ := rk.at.1 d hx
  exact subscriptTail_builtin (T := "dict") (id := "dict.__getitem__") hd.dictOf.typeIs slot_dict_getitem.lookup (wpAny_getItem_of (strKind_is _ _ k tk) hd.dictOf.mapOf hu ⟨(e₁.trans e₂).trans (.toks ..), ru⟩) (hs _ _) (hg _)

/-! going through a dict -/
noncomputable def ValS (c : Wd) (X : Addr → Prop) (I a : Addr) (kvs : List (Str × Value)) (ep : Nat) (kds : List (Str × D)) (i : Nat) (h : Heap) : Prop :=
  h.IsValIter I a i kvs.length ep ∧ h.DictAt (strKind c.prog c.w) a kvs ep ∧ RepK c.prog c.w (Un X (fun b => b = I)) h kvs kds ∧ ¬ X I ∧ ¬ X a ∧ a ≠ I
noncomputable def KeyS (c : Wd) (X : Addr → Prop) (I a : Addr) (kvs : List (Str × Value)) (ep : Nat) (kds : List (Str × D)) (i : Nat) (h : Heap) : Prop :=
  h.IsKeyIter I a i kvs.length ep ∧ h.DictAt (strKind c.prog c.w) a kvs ep ∧ RepK c.prog c.w (Un X (fun b => b = I)) h kvs kds ∧ ¬ X I ∧ ¬ X a ∧ a ≠ I
noncomputable def ItS (c : Wd) (X : Addr → Prop) (I a : Addr) (kvs : List (Str × Value)) (ep : Nat) (kds : List (Str × D)) (i : Nat) (h : Heap) : Prop :=
  (∃ ok ov, IsItemIter h I a i kvs.length ep ok ov) ∧ h.DictAt (strKind c.prog c.w) a kvs ep ∧ RepK c.prog c.w (Un X (fun b => b = I)) h kvs kds ∧ ¬ X I ∧ ¬ X a ∧ a ≠ I

theorem val_itr {target : Expr} {I a : Addr} {kvs : List (Str × Value)} {ep : Nat} {kds : List (Str × D)} : Itr c n X target I (fun b => b = I) (kds.map (·.2)) (ValS c X I a kvs ep kds) where
  frame := fun i h h' ⟨h1, h2, h3, h4, h5, h6⟩ q => ⟨let ⟨o, a, r⟩ := h1; ⟨o, q _ _ h4 a, r⟩, h2.at fun o e => q _ _ h5 e, h3.move fun b o nb e => ⟨q _ _ (fun z => nb (.inl z)) e, nb⟩, h4, h5, h6⟩
  item := fun A i s d t ⟨h1, h2, h3, h4, h5, h6⟩ hd => by
    simp only [List.getElem?_map, Option.map_eq_some_iff] at hd
    obtain ⟨⟨k, d'⟩, hkd, rfl⟩ := hd
    obtain ⟨v, hv, rv⟩ := h3.get i k d' hkd
    refine wpAny_pyNext_values_item h1 h2 hv fun h' hit hs => ⟨v, rfl, .same hs, ?_⟩
    obtain ⟨o, ho, hc, hdd⟩ := id hit
    refine letGo_free ho hc (by decide) ⟨.refl .., ⟨hit, h2.at fun o e => (hs.2 _ h6).trans e, h3.move fun b o nb e => ⟨(hs.2 b (notW nb)).trans e, nb⟩, h4, h5, h6⟩, rv.move fun b o nb e => ⟨(hs.2 b (notW nb)).trans e, nb⟩⟩
  done := fun A s t ⟨h1, h2, h3, h4, h5, h6⟩ => by
    rw [List.length_map, ← h3.length] at h1
    exact wpAny_withsize (wpAny_pyNext_values_end t.room.h h1 h2 (by simp) fun h' hs z => ⟨rfl, .of (fun b o nb e => hs b o nb e) z⟩)
  self := fun A i s t ⟨h1, _⟩ => wpAny_pyIter_valiter h1 ⟨rfl, .refl ..⟩

theorem key_itr {target : Expr} {I a : Addr} {kvs : List (Str × Value)} {ep : Nat} {kds : List (Str × D)} : Itr c n X target I (fun b => b = I) (kds.map fun p => .str p.1) (KeyS c X I a kvs ep kds) where
  frame := fun i h h' ⟨h1, h2, h3, h4, h5, h6⟩ q => ⟨let ⟨o, a, r⟩ := h1; ⟨o, q _ _ h4 a, r⟩, h2.at fun o e => q _ _ h5 e, h3.move fun b o nb e => ⟨q _ _ (fun z => nb (.inl z)) e, nb⟩, h4, h5, h6⟩
  item := fun A i s d t ⟨h1, h2, h3, h4, h5, h6⟩ hd => by
    simp only [List.getElem?_map, Option.map_eq_some_iff] at hd
    obtain ⟨⟨k, d'⟩, hkd, rfl⟩ := hd
    obtain ⟨v, hv, rv⟩ := h3.get i k d' hkd
    refine wpAny_pyNext_dict_item h1 h2 hv fun key h' hkey hit hs => ⟨key, rfl, .same hs, ?_⟩
    obtain ⟨tk, rfl⟩ := Value.isStrOf_shape hkey
    obtain ⟨o, ho, hc, hdd⟩ := id hit
    refine letGo_free ho hc (by decide) ⟨.refl .., ⟨hit, h2.at fun o e => (hs.2 _ h6).trans e, h3.move fun b o nb e => ⟨(hs.2 b (notW nb)).trans e, nb⟩, h4, h5, h6⟩, .str ..⟩
  done := fun A s t ⟨h1, h2, h3, h4, h5, h6⟩ => by
    rw [List.length_map, ← h3.length] at h1
    exact wpAny_withsize (wpAny_pyNext_dict_end t.room.h h1 h2 (by simp) fun h' hs z => ⟨rfl, .of (fun b o nb e => hs b o nb e) z⟩)
  self := fun A i s t ⟨h1, _⟩ => wpAny_pyIter_keyiter h1 ⟨rfl, .refl ..⟩

theorem entry_items_iter : entryFor table "dict_itemiterator.__iter__" = some Builtin.«dict_keyiterator.__iter__» :=
  entryFor_alias (id' := "dict_keyiterator.__iter__") (by kernel_rfl) rfl (by decide +kernel) (by kernel_rfl)

theorem it_itr {elts : List Expr} {x1 : Nat} {tpos : Pos} {I a : Addr} {kvs : List (Str × Value)} {ep : Nat} {kds : List (Str × D)} : Itr c n X (.Tuple elts x1 tpos) I (fun b => b = I) (kds.map fun p => .tup [.str p.1, p.2]) (ItS c X I a kvs ep kds) where
  frame := fun i h h' ⟨⟨ok, ov, h1⟩, h2, h3, h4, h5, h6⟩ q => ⟨⟨ok, ov, q _ _ h4 h1⟩, h2.at fun o e => q _ _ h5 e, h3.move fun b o nb e => ⟨q _ _ (fun z => nb (.inl z)) e, nb⟩, h4, h5, h6⟩
  item := fun A i s d t ⟨⟨ok, ov, h1⟩, h2, h3, h4, h5, h6⟩ hd => by
    simp only [List.getElem?_map, Option.map_eq_some_iff] at hd
    obtain ⟨⟨k, d'⟩, hkd, rfl⟩ := hd
    obtain ⟨v, hv, rv⟩ := h3.get i k d' hkd
    refine wpAny_pyNext_items_item h1 h2 hv fun key h' hkey hit htup hsz hk => ?_
    obtain ⟨tk, rfl⟩ := Value.isStrOf_shape hkey
    have e₁ : Ext (fun b => b = I) s { s with heap := h' } := .of (t := s.toks) (fun b o nb e => hk b o nb e) (by rw [hsz]; exact Nat.le_succ _)
    refine ⟨_, rfl, e₁, ?_⟩
    refine wpAny_letOwnedTupleGo_items hit fun h2' hit2 hs2 => ?_
    have e₂ : Ext (fun b => b = I) { s with heap := h' } { s with heap := h2' } := .same (s := { s with heap := h' }) (t := s.toks) hs2
    have e := e₁.trans e₂
    have WX : ∀ b, b = I → Un X (fun b => b = I) b := fun b q => .inr q
    have hne : s.heap.objs.size ≠ I := fun q => Nat.lt_irrefl _ (q ▸ Heap.lt_size h1)
    refine ⟨e₂, ⟨⟨_, _, hit2⟩, h2.at fun o eb => e.keep _ _ h6 eb, h3.move fun b o nb eb => ⟨e.keep b o (notW nb) eb, nb⟩, h4, h5, h6⟩, ?_⟩
    refine .tup (vs := [_, v]) (n := 0) ((hs2.2 _ hne).trans htup) (fun q => ?_) (.cons (.str ..) (.cons (rv.ext e WX) .nil))
    exact Nat.lt_irrefl _ (t.x _ q)
  done := fun A s t ⟨⟨ok, ov, h1⟩, h2, h3, h4, h5, h6⟩ => by
    rw [List.length_map, ← h3.length] at h1
    exact wpAny_withsize (wpAny_pyNext_items_end t.room.h h1 h2 (by simp) fun h' hs z => ⟨rfl, .of (fun b o nb e => hs b o nb e) z⟩)
  self := fun A i s t ⟨⟨ok, ov, h1⟩, _⟩ => by
    have hT : s.TypeIs (.ref I) "dict_itemiterator" := ⟨_, h1, rfl⟩
    refine wpAny_pyIter_slot hT F.slot_dict_itemiterator_iter (wpAny_call_entry F.slot_dict_itemiterator_iter hT entry_items_iter ?_ (F.args_dict_itemiterator_iter_1 _))
    show wpAny _ _ (ret (.ref I)) _ _ s
    exact wpAny_pure ⟨_, rfl, "dict_itemiterator", _, hT, F.slot_dict_itemiterator_next.lookup, rfl, .refl ..⟩
end
end Mine
namespace Mine
section
variable {c : Wd} {env : Env} {ρ ρ' : Ro} {n : Nat} {A : Around} {X W : Addr → Prop} {s s' : Shared} {x : Str} {a : Addr} {d : D}

theorem lock1 {X X' : Addr → Prop} {I : Addr} {s₁ s₂ : Shared} (e : Ext No s₁ s₂) (hI : s₁.heap.objs.size ≤ I) (hX' : ∀ b, X' b → X b ∨ I < b) : ∀ b o, ¬ X b → s₁.heap.get? b = some o → s₂.heap.get? b = some o ∧ ¬ Un X' (fun b => b = I) b := fun b o nb eb => by
  have hb : @LT.lt Nat _ b I := Nat.lt_of_lt_of_le (Heap.lt_size eb) hI
  refine ⟨e.all b o eb, fun q => q.elim (fun q => (hX' b q).elim nb fun q => Nat.lt_asymm hb q) fun q => Nat.lt_irrefl _ (q ▸ hb)⟩

theorem IterJ.keys {e target : Expr} {kds : List (Str × D)} (h : EvJ c env n ρ e (.dict kds)) : IterJ c env n ρ e target (kds.map fun p => .str p.1) := fun A s X t => by
  refine wpAny_mono (h A s X t) (fun v s₁ q => ?_) fun _ _ f => f.elim
  obtain ⟨e₁, r⟩ := q
  refine r.el fun a ep kvs hd hX hs rk => ?_
  refine wpAny_pyIter_dict hs hd ⟨e₁.trans (.push ..), s₁.heap.objs.size, (fun b => b = s₁.heap.objs.size), rfl, ?_, fun X' hX' => ⟨KeyS c X' s₁.heap.objs.size a kvs ep kds, ?_, key_itr⟩⟩
  · rintro b rfl; exact ⟨e₁.size, by show _ < (s₁.heap.push _).objs.size; rw [push_size]; exact Nat.lt_succ_self _⟩
  · have hlt := hd.lt_size
    have up : ∀ b, X' b → X b ∨ @LT.lt Nat _ s₁.heap.objs.size b := fun b q => (hX' b q).imp id fun q => by
      have q : (s₁.heap.push _).objs.size ≤ b := q
      rw [push_size] at q; exact q
    refine ⟨⟨_, Heap.get?_push_size _ rfl, rfl, rfl⟩, hd.push _, rk.move (lock1 (.push s₁ _ s₁.toks) (Nat.le_refl _) up), fun q => ?_, fun q => ?_, Nat.ne_of_lt hlt⟩
    · exact (up _ q).elim (fun q => Nat.lt_irrefl _ (Nat.lt_of_lt_of_le (t.x _ q) e₁.size)) fun q => Nat.lt_irrefl _ q
    · exact (up _ q).elim hX fun q => Nat.lt_asymm hlt q

theorem IterJ.values {e target : Expr} {ap pos : Pos} {pl : Sem Bool} {kds : List (Str × D)} (h : EvJ c env n ρ e (.dict kds))
    (he : eval (.Call (.Attribute e "values" ap) [] [] pos) env = (do
      let ov ← eval e env
      standAt ap.atName
      let (f, first) ← holding [ov] (getMethod ov "values" pl)
      callWith pos f first (backTo pos (starEach [] env)) []) := by rfl) : IterJ c env n ρ (.Call (.Attribute e "values" ap) [] [] pos) target (kds.map (·.2)) := fun A s X t => by
  refine MethodCall_ (wpAny_mono (h A s X t) (fun v s₁ q => wpAny_mono (getM_dict F.slot_dict_values F.type_dict_values A s₁ X v pl (t.ext q.1).sv q.2) (fun fx s₂ q' => ?_) fun _ _ f => f.elim) fun _ _ f => f.elim) he
  obtain ⟨rfl, rfl⟩ := q'
  obtain ⟨e₁, r⟩ := q
  refine r.el fun a ep kvs hd hX hs rk => ?_
  refine callWith_builtin rfl (evalArgs_any (.inl rfl) (spliced_nil ?_))
  refine call_meetsIn F.slot_dict_values hd.dictOf.typeIs F.entry_dict_values (F.args_dict_values_1 _) (meets_dict_values (strKind c.prog c.w) a hs) ⟨⟨_, hd.dictOf⟩, ?_⟩
  show wpAny _ _ _ _ _ _
  generalize hs3 : ({ s₂ with heap := s₂.heap.push { cls := .type "dict_values", data := .fields #[.ref a] } } : Shared) = s₃
  have e₃ : Ext No s₂ s₃ := by rw [← hs3]; exact .push s₂ _ s₂.toks
  have hv : s₃.heap.IsValuesView s₂.heap.objs.size a := ⟨_, by rw [← hs3]; exact Heap.get?_push_size _ rfl, rfl, rfl⟩
  have hd3 := hd.at fun o q => e₃.all _ _ q
  have hz3 := e₃.size
  have hz1 := e₁.size
  refine wpAny_pyIter_values hv hd3 ⟨(e₁.trans e₃).trans (.push ..), s₃.heap.objs.size, (fun b => b = s₃.heap.objs.size), rfl, ?_, fun X' hX' => ⟨ValS c X' s₃.heap.objs.size a kvs ep kds, ?_, val_itr⟩⟩
  · rintro b rfl; exact ⟨Nat.le_trans hz1 hz3, by show _ < (s₃.heap.push _).objs.size; rw [push_size]; exact Nat.lt_succ_self _⟩
  · have hlt := hd3.lt_size
    have up : ∀ b, X' b → X b ∨ @LT.lt Nat _ s₃.heap.objs.size b := fun b q => (hX' b q).imp id fun q => by
      have q : (s₃.heap.push _).objs.size ≤ b := q
      rw [push_size] at q; exact q
    refine ⟨⟨_, Heap.get?_push_size _ rfl, rfl, rfl⟩, hd3.push _, rk.move (lock1 (e₃.trans (.push s₃ _ s₃.toks)) hz3 up), fun q => ?_, fun q => ?_, Nat.ne_of_lt hlt⟩
    · exact (up _ q).elim (fun q => Nat.lt_irrefl _ (Nat.lt_of_lt_of_le (t.x _ q) (Nat.le_trans hz1 hz3))) fun q => Nat.lt_irrefl _ q
    · exact (up _ q).elim hX fun q => Nat.lt_asymm hlt q

theorem IterJ.items {e : Expr} {elts : List Expr} {x1 : Nat} {tpos ap pos : Pos} {pl : Sem Bool} {kds : List (Str × D)} (h : EvJ c env n ρ e (.dict kds))
    (he : eval (.Call (.Attribute e "items" ap) [] [] pos) env = (do
      let ov ← eval e env
      standAt ap.atName
      let (f, first) ← holding [ov] (getMethod ov "items" pl)
      callWith pos f first (backTo pos (starEach [] env)) []) := by rfl) : IterJ c env n ρ (.Call (.Attribute e "items" ap) [] [] pos) (.Tuple elts x1 tpos) (kds.map fun p => .tup [.str p.1, p.2]) := fun A s X t => by
  refine MethodCall_ (wpAny_mono (h A s X t) (fun v s₁ q => wpAny_mono (getM_dict F.slot_dict_items F.type_dict_items A s₁ X v pl (t.ext q.1).sv q.2) (fun fx s₂ q' => ?_) fun _ _ f => f.elim) fun _ _ f => f.elim) he
  obtain ⟨rfl, rfl⟩ := q'
  obtain ⟨e₁, r⟩ := q
  refine r.el fun a ep kvs hd hX hs rk => ?_
  refine callWith_builtin rfl (evalArgs_any (.inl rfl) (spliced_nil ?_))
  refine call_meetsIn F.slot_dict_items hd.dictOf.typeIs F.entry_dict_items (F.args_dict_items_1 _) (meets_dict_items (strKind c.prog c.w) a hs) ⟨⟨_, hd.dictOf⟩, ?_⟩
  show wpAny _ _ _ _ _ _
  generalize hs3 : ({ s₂ with heap := s₂.heap.push { cls := .type "dict_items", data := .fields #[.ref a] } } : Shared) = s₃
  have e₃ : Ext No s₂ s₃ := by rw [← hs3]; exact .push s₂ _ s₂.toks
  have hv : s₃.heap.IsItemsView s₂.heap.objs.size a := ⟨_, by rw [← hs3]; exact Heap.get?_push_size _ rfl, rfl, rfl⟩
  have hd3 := hd.at fun o q => e₃.all _ _ q
  have hz3 := e₃.size
  have hz1 := e₁.size
  refine wpAny_pyIter_items hv hd3 ⟨(e₁.trans e₃).trans (.push ..), s₃.heap.objs.size, (fun b => b = s₃.heap.objs.size), rfl, ?_, fun X' hX' => ⟨ItS c X' s₃.heap.objs.size a kvs ep kds, ?_, it_itr⟩⟩
  · rintro b rfl; exact ⟨Nat.le_trans hz1 hz3, by show _ < (s₃.heap.push _).objs.size; rw [push_size]; exact Nat.lt_succ_self _⟩
  · have hlt := hd3.lt_size
    have up : ∀ b, X' b → X b ∨ @LT.lt Nat _ s₃.heap.objs.size b := fun b q => (hX' b q).imp id fun q => by
      have q : (s₃.heap.push _).objs.size ≤ b := q
      rw [push_size] at q; exact q
    refine ⟨⟨_, _, Heap.get?_push_size _ rfl⟩, hd3.push _, rk.move (lock1 (e₃.trans (.push s₃ _ s₃.toks)) hz3 up), fun q => ?_, fun q => ?_, Nat.ne_of_lt hlt⟩
    · exact (up _ q).elim (fun q => Nat.lt_irrefl _ (Nat.lt_of_lt_of_le (t.x _ q) (Nat.le_trans hz1 hz3))) fun q => Nat.lt_irrefl _ q
    · exact (up _ q).elim hX fun q => Nat.lt_asymm hlt q
end
end Mine
namespace Mine

/-- what a run of stores makes -/
noncomputable def madeK {α : Type} (os : List (Str × α)) : List (Str × α) := os.foldl (fun m p => putK m p.1 p.2) []
theorem madeK_snoc {α : Type} (os : List (Str × α)) (p : Str × α) : madeK (os ++ [p]) = putK (madeK os) p.1 p.2 := by simp [madeK]
theorem putK_length {α : Type} (m : List (Str × α)) (k : Str) (d : α) : (putK m k d).length ≤ m.length + 1 := by
  unfold putK; split <;> simp
theorem madeK_length {α : Type} (os : List (Str × α)) : (madeK os).length ≤ os.length := by
  have : ∀ (os m : List (Str × α)), (os.foldl (fun m p => putK m p.1 p.2) m).length ≤ m.length + os.length := by
    intro os
    induction os with
    | nil => intro m; simp
    | cons p os ih => intro m; have h1 := ih (putK m p.1 p.2); have h2 := putK_length m p.1 p.2; simp only [List.foldl_cons, List.length_cons]; omega
  simpa [madeK] using this os []

section
variable {c : Wd} {env : Env} {ρ ρ' ρc : Ro} {n : Nat} {A : Around} {X W : Addr → Prop} {s s' : Shared}

noncomputable def dictAcc (c : Wd) : AccKind c (Str × D) where
  P X a h os := ∃ kvs ep, h.DictAt (strKind c.prog c.w) a kvs ep ∧ RepK c.prog c.w X h kvs (madeK os)
  move := fun q ⟨kvs, ep, h1, h2⟩ => ⟨kvs, ep, h1.at fun o e => (q _ _ (.inr rfl) e).1, h2.move fun b o nb e => let ⟨x, y⟩ := q b o (.inl nb) e; ⟨x, y nb⟩⟩

noncomputable def dictK (c : Wd) (kx vx : Expr) (gens : List Comprehension) (scope : Scope) (pos : Pos) (env : Env) : CompK c (Str × D) (.DictComp kx vx gens scope pos) gens env where
  acc := dictAcc c
  emit a := (do
      let kv ← eval kx env
      let vv ← holding [kv] (eval vx env)
      standAt { kx.pos with endLine := vx.pos.endLine, endCol := vx.pos.endCol }
      holding [kv, vv] (dictSet a kv vv))
  turn := fun depth it a => turn_dict ..
  clauses := rfl
  loop := fun _ _ _ => rfl
  start := fun _ _ _ => rfl
  quietL := fun _ _ _ => rfl
  underL := fun A _ _ _ => Around.under_of_weight rfl rfl
  underS := fun A _ _ _ => Around.under_of_weight rfl rfl

theorem gath_pair {kx vx : Expr} {k : Str} {d : D} {pos : Pos} (hk : EvJ c env n ρ kx (.str k)) (hv : EvJ c env n ρ vx d) : GathJ c env n ρ (dictAcc c) (fun a => (do
      let kv ← eval kx env
      let vv ← holding [kv] (eval vx env)
      standAt pos
      holding [kv, vv] (dictSet a kv vv) : Sem Unit)) [(k, d)] := fun A s X a os t hX hlo hl hP hz => by
  refine wpAny_bind (wpAny_mono (hk A s X t) (fun v s₁ q => ?_) fun _ _ f => f.elim)
  obtain ⟨e₁, r⟩ := q
  refine r.el fun tk => ?_
  refine wpAny_bind (wpAny_holding (wpAny_mono (hv A s₁ X (t.ext e₁)) (fun v s₂ q => ?_) fun _ _ f => f.elim))
  obtain ⟨e₂, r⟩ := q
  refine wpAny_bind (wpAny_standAt (wpAny_holding ?_))
  have e := e₁.trans e₂
  obtain ⟨kvs, ep, h1, h2⟩ := hP
  have h1 := h1.at fun o q => e.all _ _ q
  have h2 := h2.move fun b o nb q => ⟨e.all b o q, nb⟩
  have hlen := madeK_length os
  simp only [List.length_cons, List.length_nil] at hz
  refine wpAny_dictSet_pairs (hsz := by rw [h2.length]; omega) (strKind_is _ _ k tk) h1.dictOf fun h' hm hs => ?_
  obtain ⟨ep', hm'⟩ := hm.dictAt
  have k' : ∀ b, b = a → X b := fun b q => q ▸ hX
  have mv : ∀ b o, ¬ X b → s₂.heap.get? b = some o → h'.get? b = some o ∧ ¬ X b := fun b o nb eb => ⟨hs.extBut b o (fun q => nb (q ▸ hX)) eb, nb⟩
  have e₃ : Ext (fun b => b = a) s₂ { s₂ with heap := h', toks := s₂.toks + 1 } := .same hs
  refine ⟨e.no.trans (e₃.mono fun _ _ q => .inr q), ?_, _, ep', hm', ?_⟩
  · have ev := t.env.ext0 e
    obtain ⟨od, es, hod, _, hdd, _⟩ := id h1
    have hnc : ∀ ov, ¬ s₂.heap.IsCell a ov := fun ov ⟨o, q1, q2⟩ => by rw [hod] at q1; cases q1; rw [hdd] at q2; (first | refine q2.eg ?_ | refine q2.eb ?_ | refine q2.en ?_ | refine q2.e0 ?_ | refine q2.el fun _ => ?_ | cases q2)
    refine ⟨⟨ev.kind, ev.glob, ev.blt, ev.ns.imp fun _ z => z.sameBut hs (fun q => hl (.inl q.symm)), ev.xl, ev.lo, fun m b e => ?_, ev.inj⟩, fun x d hx => ?_⟩
    · obtain ⟨⟨ov, a1⟩, a2⟩ := ev.cell m b e
      exact ⟨⟨ov, a1.sameBut hs fun q => hnc _ (q ▸ a1)⟩, a2⟩
    · obtain ⟨u, q, r'⟩ := ev.val x d hx
      refine ⟨u, ?_, r'.ext e₃ k'⟩
      rcases q with ⟨a1, m', b, e⟩ | ⟨a1, f, b, e⟩ | q
      · exact .inl ⟨a1, m', b.sameBut hs (fun q => hl (.inl q.symm)), e⟩
      · exact .inr (.inl ⟨a1, f, b, e.sameBut hs fun q => hnc _ (q ▸ e)⟩)
      · exact .inr (.inr q)
  · rw [madeK_snoc]
    exact RepK.stored (r.move mv) (h2.move mv)

/-- what a dict comprehension's parts give -/
structure DC (c : Wd) (env : Env) (n : Nat) (ρ ρc : Ro) (kx vx : Expr) (g : Comprehension) (gs : List Comprehension) (scope : Scope) (pos : Pos) (ds : List D) (f : D → List (Str × D)) : Prop where
  hasy : ∀ g' ∈ g :: gs, g'.is_async = 0
  hk : scope.kind = .function
  K : CapOk env scope.names
  hI : IterJ c env n ρ g.iter g.target ds
  hs : ∀ x, foldedSetIterable g.iter env x = pure x
  hc : ∀ p ∈ ρc, SeeOk c env ρ scope.names p
  items : ∀ env', Fenv env' (capNames scope.names) scope.names → ∀ d ∈ ds, ItemJ c env' n ρc (dictK c kx vx (g :: gs) scope pos env') g 0 d (f d)
  hz : (ds.map f).flatten.length ≤ sizeLine

theorem ev_dictcomp {kx vx : Expr} {g : Comprehension} {gs : List Comprehension} {scope : Scope} {pos : Pos} {ds : List D} {f : D → List (Str × D)} (L : DC c env n ρ ρc kx vx g gs scope pos ds f) :
    EvJ c env n ρ (.DictComp kx vx (g :: gs) scope pos) (.dict (madeK (ds.map f).flatten)) := fun A s X t => by
  have e0 : eval (.DictComp kx vx (g :: gs) scope pos) env = comprehension (.DictComp kx vx (g :: gs) scope pos) scope env (firstIterPos (g :: gs) pos) newDict (firstAsync (g :: gs)) (firstIter (g :: gs) env) := rfl
  rw [e0, first_sync (L.hasy g (.head _)), first_iter]
  refine comp_core (elt := kx) (pos := firstIterPos (g :: gs) pos) (use := none) f (fun env' => dictK c kx vx (g :: gs) scope pos env')
    (dictAcc c) (fun env' => rfl) newDict { cls := .type "dict", data := .dict #[] } rfl
    (fun s Q h => wpAny_bind (wpAny_alloc (wpAny_pure h))) (fun X a h e => ?_) L.hasy L.hk L.K rfl L.hI L.hs L.hc L.items L.hz t fun s' a C X' e hX' hXX hC ha' hne hsa hsC hns hP => ?_
  · obtain ⟨o, ho, hd⟩ := Heap.dictOf_iff.mp (Heap.DictOf.new (knd := strKind c.prog c.w) s.heap)
    rw [Heap.get?_push_size _ rfl] at ho
    obtain ⟨ep, hd'⟩ := Heap.DictOf.dictAt (Heap.dictOf_iff.mpr ⟨_, e, (Option.some.inj ho) ▸ hd⟩)
    exact ⟨[], ep, hd', .nil⟩
  obtain ⟨m, hns⟩ := hns
  refine ⟨m, hns, fun h' hs => ?_⟩
  obtain ⟨kvs, ep, h1, h2⟩ := hP
  have eC : Ext (fun b => b = C) s' { s' with heap := h' } := .same (t := s'.toks) hs
  refine ⟨⟨fun b o _ eb => eC.keep b o (fun q => ?_) (e.all b o eb), Nat.le_trans e.size eC.size, eC.os.trans e.os, fun g => eC.gens (e.gens g)⟩, .dict (h1.at fun o q => (hs.2 a hne).trans q) (fun q => Nat.lt_irrefl _ (Nat.lt_of_lt_of_le (t.x a q) hsa)) ?_ ?_⟩
  · exact Nat.lt_irrefl _ (Nat.lt_of_lt_of_le (Heap.lt_size eb) (q ▸ hsC))
  · have h1 : @LT.lt Nat _ sysModules c.hb.objs.size := Base.big (c := c)
    rw [beq_eq_false_iff_ne]
    intro q
    have q' : a = (sysModules : Nat) := q
    have h2 := t.ok.size
    omega
  · exact h2.move fun b o nb eb => ⟨hs.extBut b o (fun q => nb (q ▸ hC)) eb, fun q => nb (hXX b q)⟩
end
end Mine
namespace Mine

mutual
noncomputable def dP : D → PyData
  | .none => .none
  | .bool b => .bool b
  | .int i => .int i
  | .str x => .str x
  | .tup ds => .tuple (dPs ds)
  | .list ds => .list (dPs ds)
  | .dict _ => .none
  | .inst _ => .none
  | .glob _ => .none
noncomputable def dPs : List D → List PyData
  | [] => []
  | d :: ds => dP d :: dPs ds
end

noncomputable def okD : Nat → D → Prop
  | _, .int _ => True
  | _, .str x => PyData.strOk x = true
  | n + 1, .tup ds => ∀ d ∈ ds, okD n d
  | n + 1, .list ds => ∀ d ∈ ds, okD n d
  | _, _ => False

section
variable {prog : Program} {w : World} {X : Addr → Prop} {h : Heap}
mutual
theorem Rep.reads : ∀ {v : Value} {d : D} (n : Nat), okD n d → Rep prog w X h v d → ∃ as, Reads h v (dP d) as
  | _, _, _, _, .int i t => ⟨_, Reads.int i t⟩
  | _, _, _, _, .str x t => ⟨_, Reads.str x t⟩
  | _, _, 0, hk, .tup _ _ _ => by simp [okD] at hk
  | _, _, 0, hk, .list _ _ _ => by simp [okD] at hk
  | _, _, n + 1, hk, .tup ho _ r => by
    obtain ⟨as, q⟩ := RepL.reads n hk r
    rw [dP]
    exact ⟨as, reads_tuple_at ho rfl rfl (by simpa using q)⟩
  | _, _, n + 1, hk, .list ho _ r => by
    obtain ⟨as, q⟩ := RepL.reads n hk r
    rw [dP]
    exact ⟨_, reads_list_at ho rfl rfl (by simpa using q)⟩
  | _, _, n, hk, .none => by cases n <;> simp [okD] at hk
  | _, _, n, hk, .bool _ => by cases n <;> simp [okD] at hk
  | _, _, n, hk, .dict _ _ _ _ => by cases n <;> simp [okD] at hk
  | _, _, n, hk, .inst _ _ _ _ _ _ _ => by cases n <;> simp [okD] at hk
  | _, _, n, hk, .glob _ => by cases n <;> simp [okD] at hk
theorem RepL.reads : ∀ {vs : List Value} {ds : List D} (n : Nat), (∀ d ∈ ds, okD n d) → RepL prog w X h vs ds → ∃ as, ReadsAll h vs (dPs ds) as
  | _, _, _, _, .nil => ⟨_, ReadsAll.nil⟩
  | _, _, n, hk, .cons a r => by
    obtain ⟨as, q⟩ := Rep.reads n (hk _ (.head _)) a
    obtain ⟨bs, p⟩ := RepL.reads n (fun d hm => hk d (.tail _ hm)) r
    rw [dPs]
    exact ⟨_, ReadsAll.cons q p⟩
end
end

theorem okD_lay : ∀ (n : Nat) (d : D), okD n d → (dP d).canLay0 = true ∧ (dP d).depth ≤ n := by
  have all : ∀ (n : Nat), (∀ d, okD n d → (dP d).canLay0 = true ∧ (dP d).depth ≤ n) → ∀ ds : List D, (∀ d ∈ ds, okD n d) → PyData.canLayAll0 (dPs ds) = true ∧ PyData.depthAll (dPs ds) ≤ n := by
    intro n ih ds
    induction ds with
    | nil => intro _; simp [dPs, PyData.canLayAll0, PyData.depthAll]
    | cons d ds hi =>
      intro h
      have h1 := ih d (h d (.head _))
      have h2 := hi fun e he => h e (.tail _ he)
      simp only [dPs, PyData.canLayAll0, PyData.depthAll, h1.1, h2.1, Bool.and_self, true_and]
      have a1 := h1.2
      have a2 := h2.2
      omega
  intro n
  induction n with
  | zero =>
    intro d h
    cases d <;> simp_all [okD, dP, PyData.canLay0, PyData.depth]
  | succ n ih =>
    intro d h
    cases d with
    | int i => simp [dP, PyData.canLay0, PyData.depth]
    | str x => simp [okD] at h; simp [dP, PyData.canLay0, PyData.depth, h]
    | tup ds =>
      have q := all n ih ds h
      have q2 := q.2
      simp only [dP, PyData.canLay0, PyData.depth, q.1, true_and]
      omega
    | list ds =>
      have q := all n ih ds h
      have q2 := q.2
      simp only [dP, PyData.canLay0, PyData.depth, q.1, true_and]
      omega
    | _ => exact h.elim

section
variable {c : Wd} {env : Env} {ρ ρ' : Ro} {n : Nat} {A : Around} {X : Addr → Prop} {s s' : Shared}

theorem okD_shaped {m : Nat} {d : D} (h : okD m d) (hm : m ≤ 64) : SeqAt.shaped (dP d) = true := by
  have q := okD_lay m d h
  unfold SeqAt.shaped
  rw [q.1, Bool.true_and]
  exact decide_eq_true (Nat.le_trans q.2 hm)

theorem ne_same {d : D} {m : Nat} (h : okD m d) (hm : m ≤ 64 := by decide) : CmpD c n .NotEq d d false := fun A s X v u t r q => by
  obtain ⟨as, ra⟩ := r.reads m h
  obtain ⟨bs, rb⟩ := q.reads m h
  exact ne_dataH ra rb (okD_shaped h hm) (okD_shaped h hm) t.room.units ⟨.refl .., by rw [SeqAt.eqv_refl _ (okD_lay m d h).1]; rfl⟩
theorem eq_same {d : D} {m : Nat} (h : okD m d) (hm : m ≤ 64 := by decide) : CmpD c n .Eq d d true := fun A s X v u t r q => by
  obtain ⟨as, ra⟩ := r.reads m h
  obtain ⟨bs, rb⟩ := q.reads m h
  exact eq_dataH ra rb (okD_shaped h hm) (okD_shaped h hm) t.room.units ⟨.refl .., by rw [SeqAt.eqv_refl _ (okD_lay m d h).1]⟩

theorem hits_same {A : Around} {X : Addr → Prop} {s : Shared} {m : Nat} (hm : m ≤ 64) (hu : A.in1.units + 64 < cLine) {kb : List (Str × Value)} : ∀ {kvs : List (Str × Value)} {kds : List (Str × D)}, RepK c.prog c.w X s.heap kvs kds → ∀ {kvs' : List (Str × Value)}, RepK c.prog c.w X s.heap kvs' kds →
    (∀ p ∈ kds, okD m p.2) → (∀ k v, (k, v) ∈ kvs' → valueAt kb k = some v) → KeqHits A.in1 s kb kvs true
  | _, _, .nil, _, _, _, _ => .nil
  | _, _, .cons a r, _, q, ho, hk => by
    revert hk
    refine q.ec fun v us b q => fun hk => ?_
    obtain ⟨as, ra⟩ := a.reads m (ho _ (.head _))
    obtain ⟨bs, rb⟩ := b.reads m (ho _ (.head _))
    have e1 := SeqAt.eqv_refl _ (okD_lay m _ (ho _ (.head _))).1
    exact .hit (e := true) (b := true) (hk _ _ (.head _)) (e1 ▸ keq_at (A := A) ra rb (okD_shaped (ho _ (.head _)) hm) (okD_shaped (ho _ (.head _)) hm) hu) (hits_same hm hu r q (fun p hp => ho p (.tail _ hp)) fun k v h => hk k v (.tail _ h))

theorem ne_same_dict {kds : List (Str × D)} {m : Nat} (h : ∀ p ∈ kds, okD m p.2) (hm : m ≤ 64 := by decide) : CmpD c n .NotEq (.dict kds) (.dict kds) false := fun A s X v u t r q => by
  refine r.el fun _ _ _ hd hX hs rk => ?_
  refine q.el fun _ _ _ hd' hX' hs' rk' => ?_
  have hu := t.room.u
  refine keq_ne (r := true) hs hs' hd.dictOf hd'.dictOf (by show A.units < 9900; omega) (fun _ => hits_same hm (by have := t.room.u; show A.in1.units + 64 < 9900; simp only [Around.in1_units]; omega) rk rk' h fun k v hm => ?_) ?_
  · obtain ⟨i, hi⟩ := List.getElem?_of_mem hm
    exact valueAt_of_get hd'.nodup hi
  · rw [rk.length, rk'.length]; exact ⟨.refl .., by simp⟩
end
end Mine
section
namespace Mine

/-! the pattern's search -/
section
open PySem.Builtin.Re
noncomputable def reCode : Array Nat := #[14, 8, 1, 2, 4294967295, 1, 1, 46, 0, 16, 46, 24, 9, 1, 4294967295, 13, 4, 8, 0, 0, 1, 6, 5, 1]
noncomputable def reObj (pat : Value) (f g : Value) (codes : Addr) : Obj := { cls := .type "re.Pattern", data := .fields #[pat, f, .int 0 0, .none, .none, .ref codes, g] }
noncomputable def runN : Nat → Sre.M → Option Sre.M
  | 0, _ => none
  | k + 1, m => if (m.runFor reTurnSteps).outcome.isSome = true then some (m.runFor reTurnSteps) else runN k (m.runFor reTurnSteps)
noncomputable def isM : Option Sre.Outcome → Option Bool
  | some .matched => some true
  | some .failed => some false
  | _ => none
noncomputable def reRun (x : Str) : Option Sre.M := runN 100 (Sre.forSearch reCode x.cps 0 0 x.cps.size false)
noncomputable def reFinds (x : Str) : Option Bool := (reRun x).bind fun m => isM m.outcome

theorem slot_search : Slot "re.Pattern" "search" "re.Pattern.search" :=
  .of (owner := "re.Pattern") (n := "search") (by rw [typeLookup_type, builtinLookup_eq_fast]; kernel_rfl) (by decide +kernel) (by decide +kernel) (by decide +kernel)
    (by first | exact .inl (by decide +kernel) | exact .inr (by decide +kernel)) (by rw [isSubtype_type]; kernel_rfl)
theorem type_search : typeOf (.builtin "re.Pattern.search") = pure (.type "method_descriptor") := by show builtinType _ = _; rw [builtinType_eq_fast]; kernel_rfl
theorem entry_search : entryFor table "re.Pattern.search" = some Builtin.«re.Pattern.search» := entryFor_of_tree (by kernel_rfl)
theorem args_search (a b : Value) : argsOk "re.Pattern.search" ⟨[a, b], []⟩ := by
  unfold argsOk; kernel_rfl
theorem plain_pattern : PlainAttrs "re.Pattern" :=
  ⟨⟨"object.__getattribute__", by rw [typeLookup_type, builtinLookup_eq_fast]; kernel_rfl, by decide +kernel⟩, by rw [typeLookup_type, builtinLookup_eq_fast]; kernel_rfl⟩
theorem noBool_match : typeLookup (.type "re.Match") "__bool__" = pure none := by rw [typeLookup_type, builtinLookup_eq_fast]; kernel_rfl
theorem noLen_match : typeLookup (.type "re.Match") "__len__" = pure none := by rw [typeLookup_type, builtinLookup_eq_fast]; kernel_rfl

section
variable {c : Wd} {A : Around} {X : Addr → Prop} {s s' : Shared}

theorem drive_of {m' : Sre.M} {Q : Sre.M → Shared → Prop} (hQ : Q m' s) : ∀ (k : Nat) (m : Sre.M) (turns : Nat), k ≤ turns → runN k m = some m' → wpAny (model c.prog c.w) A (reDrive turns m) Q FF s
  | 0, _, _, _, e => by cases e
  | k + 1, m, 0, h, _ => by omega
  | k + 1, m, t + 1, h, e => by
    unfold runN at e
    show wpAny _ _ (if (m.runFor reTurnSteps).outcome.isSome = true then pure (m.runFor reTurnSteps) else do rule "sre.turn"; reDrive t (m.runFor reTurnSteps)) Q FF s
    split at e
    · rename_i hs
      cases e
      rw [if_pos hs]
      exact wpAny_pure hQ
    · rename_i hs
      rw [if_neg hs]
      exact wpAny_bind (wpAny_rule (drive_of hQ k _ t (by omega) e))
theorem forIn_free {α : Type} (l : List α) (f : α → PUnit → Sem (ForInStep PUnit)) (hf : ∀ a r, (∃ n, f a r = (do rule n; pure (.yield PUnit.unit))) ∨ f a r = pure (.yield PUnit.unit)) :
    wpAny (model c.prog c.w) A (forIn l PUnit.unit f) (fun _ s' => s' = s) FF s := by
  induction l with
  | nil => simp only [List.forIn_nil]; exact wpAny_pure rfl
  | cons a l ih =>
    simp only [List.forIn_cons]
    refine wpAny_bind ?_
    rcases hf a PUnit.unit with ⟨n, e⟩ | e <;> rw [e]
    · exact wpAny_bind (wpAny_rule (wpAny_pure ih))
    · exact wpAny_pure ih

theorem truthy_match {a : Addr} (hT : s.TypeIs (.ref a) "re.Match") {Q : Bool → Shared → Prop} (h : Q true s) : wpAny (model c.prog c.w) A (truthy (.ref a)) Q FF s := by
  unfold truthy
  first
    | refine wpAny_bind (wpAny_callSpecial?_none (name := Str.ofString "__bool__") hT noBool_match ?_)
    | refine wpAny_bind (wpAny_pure (wpAny_bind (wpAny_callSpecial?_none (name := Str.ofString "__bool__") hT noBool_match ?_)))
  first
    | refine wpAny_bind (wpAny_specialOf (name := Str.ofString "__len__") hT noLen_match ?_)
    | refine wpAny_bind (wpAny_pure (wpAny_bind (wpAny_specialOf (name := Str.ofString "__len__") hT noLen_match ?_)))
  exact wpAny_pure h

theorem search_call {p codes : Addr} {pat f : Value} {x : Str} {t : Tok} {b : Bool} (hp : s.heap.get? p = some (reObj pat f (.int 0 0) codes)) {oc : Obj} {its : Array Value} {kc : Nat} (hc : s.heap.get? codes = some oc) (hcd : oc.data = .seq its kc) (hits : (its.map reRawOf).map (·.toNat) = reCode) (hlen : x.cps.size < 1000)
    (hb : reFinds x = some b) : wpAny (model c.prog c.w) A (call (.builtin "re.Pattern.search") [.ref p, .str x t]) (fun v s' => Ext No s s' ∧ wpAny (model c.prog c.w) A (truthy v) (fun r s'' => s'' = s' ∧ r = b) FF s') FF s := by
  have hT : s.TypeIs (.ref p) "re.Pattern" := ⟨_, hp, rfl⟩
  refine wpAny_call_entry slot_search hT entry_search ?_ (args_search _ _)
  unfold Builtin.«re.Pattern.search»
  have e1 : reNamed "re.Pattern.search" "search" ["string", "pos", "endpos"] 1 [.str x t] [] = pure [some (.str x t), none, none] := by rfl
  have e2 : reTarget "re.Pattern.search" "search" ⟨[.ref p, .str x t], []⟩ = (do
      let fs ← fieldsOf (.ref p)
      let (text, kind) := (x.cps, 0)
      let want := reRawNat (fs.getD 6 .none)
      if want == 0 && kind == 1 then raiseError "TypeError" "cannot use a string pattern on a bytes-like object"
      if want == 1 && kind == 0 then raiseError "TypeError" "cannot use a bytes pattern on a string-like object"
      reNoCollectionInside (.str x t) kind
      let clip (i : Int) : Nat := min i.toNat text.size
      pure { pattern := .ref p, string := .str x t, code := (← reRawItems (fs.getD 5 .none)).map (·.toNat), text, kind, groups := reRawNat (fs.getD 2 .none), pos := clip 0, lim := clip (2 ^ 63 - 1) }) := by
    unfold reTarget
    rfl
  rw [e2]
  refine wpAny_bind (wpAny_bind (wpAny_fieldsOf hp rfl ?_))
  have e3 : reNoCollectionInside (.str x t) 0 = pure () := by rfl
  show wpAny _ _ (do
      reNoCollectionInside (.str x t) 0
      let its ← reRawItems (.ref codes)
      pure ({ pattern := .ref p, string := .str x t, code := its.map (·.toNat), text := x.cps, kind := 0, groups := 0, pos := min 0 x.cps.size, lim := min (2 ^ 63 - 1 : Int).toNat x.cps.size } : ReTarget)) _ _ _
  rw [e3]
  refine wpAny_bind (wpAny_pure ?_)
  unfold reRawItems
  refine wpAny_bind (wpAny_bind (wpAny_seqItems hc hcd ?_))
  refine wpAny_pure (wpAny_pure ?_)
  dsimp only
  have hlim : min (2 ^ 63 - 1 : Int).toNat x.cps.size = x.cps.size := by omega
  rw [Nat.zero_min, hlim, show Array.map (fun x => x.toNat) (Array.map reRawOf ((some its).getD #[])) = reCode from hits]
  unfold reAnswer reRunToEnd
  unfold reFinds at hb
  cases hr : reRun x with
  | none => rw [hr] at hb; cases hb
  | some m =>
    rw [hr] at hb
    have hm : isM m.outcome = some b := hb
    refine wpAny_bind (wpAny_bind (drive_of ?_ 100 _ _ (by decide) hr))
    refine wpAny_bind (wpAny_mono (forIn_free _ _ (fun a r => ?_)) (fun u s₁ q => ?_) fun _ _ f => f.elim)
    · split
      · exact .inl ⟨_, rfl⟩
      · exact .inr rfl
    obtain rfl := q
    have hm' : ∃ o, m.outcome = some o := by cases ho : m.outcome with | none => rw [ho] at hm; cases hm | some o => exact ⟨o, rfl⟩
    obtain ⟨o, ho⟩ := hm'
    rw [ho] at hm ⊢
    cases o with
    | failed =>
      cases hm
      exact wpAny_pure (wpAny_pure ⟨_, rfl, .refl .., truthy_none ⟨rfl, rfl⟩⟩)
    | matched =>
      cases hm
      refine wpAny_pure ?_
      show wpAny _ _ (reNewMatch (.ref p) (.str x t) 0 0 x.cps.size m >>= fun v => ret v) _ _ _
      have e4 : reNewMatch (.ref p) (.str x t) 0 0 x.cps.size m = (do
          let tv ← newTuple [rawInt m.start, rawInt m.handed]
          newFields "re.Match" [.str x t, .ref p, rawInt (0 : Nat), rawInt x.cps.size, rawInt m.lastindex, tv]) := by rfl
      rw [e4]
      refine wpAny_bind (wpAny_bind (wpAny_newTuple ?_))
      refine wpAny_newObj_type ?_
      have k1 : Ext No s₁ { s₁ with heap := s₁.heap.push { cls := .type "tuple", data := .seq [rawInt m.start, rawInt m.handed].toArray } } := .push s₁ _ s₁.toks
      refine wpAny_pure ⟨_, rfl, k1.trans (.push ..), truthy_match ⟨_, Heap.get?_push_size _ rfl, rfl⟩ ⟨rfl, rfl⟩⟩
    | stuck _ => cases hm
end
end
end Mine
end
namespace Mine
section
variable {c : Wd} {env : Env} {ρ ρ' ρc : Ro} {n : Nat} {A : Around} {X W : Addr → Prop} {s s' : Shared} {R : FlowD → Prop}

/-- the pattern stands in the text's own part of the heap -/
structure PatAt (c : Wd) (p : Addr) : Prop where
  is : ∃ pat f codes oc its kc, c.K.lookup p = some (reObj pat f (.int 0 0) codes) ∧ c.K.lookup codes = some oc ∧ oc.data = .seq its kc ∧ (its.map PySem.Builtin.Re.reRawOf).map (·.toNat) = reCode

theorem TestJ.search {f : Str} {p : Addr} {e : Expr} {x : Str} {b : Bool} {np ap pos : Pos} {pl : Sem Bool} (hf : (f, D.glob (.ref p)) ∈ ρ) (hp : PatAt c p) (h : EvJ c env n ρ e (.str x)) (hb : reFinds x = some b) (hx : x.cps.size < 1000)
    (hn : (f == ("__debug__" : Str)) = false := by decide)
    (hns : NoStar (backTo pos (starEach [e] env)) := by first | exact .inr ⟨_, _, rfl⟩ | exact .inl rfl) (hpl : (backTo pos (starEach [e] env)).any (·.1) = false := by rfl) (hse : starEach [e] env = (false, eval e env) :: starEach [] env := by rfl)
    (he : eval (.Call (.Attribute (.Name f np) "search" ap) [e] [] pos) env = (do
      let ov ← eval (.Name f np) env
      standAt ap.atName
      let (f, first) ← holding [ov] (getMethod ov "search" pl)
      callWith pos f first (backTo pos (starEach [e] env)) []) := by rfl)
    (ht : isTrue (.Call (.Attribute (.Name f np) "search" ap) [e] [] pos) env (eval (.Call (.Attribute (.Name f np) "search" ap) [e] [] pos) env) = (do let v ← eval (.Call (.Attribute (.Name f np) "search" ap) [e] [] pos) env; standAt pos; holding [v] (truthy v)) := by rfl) :
    TestJ c env n ρ (.Call (.Attribute (.Name f np) "search" ap) [e] [] pos) b := fun A s X t => by
  rw [ht]
  refine wpAny_bind (wpAny_mono (Q := fun v s' => Ext No s s' ∧ wpAny (model c.prog c.w) A (truthy v) (fun r s'' => s'' = s' ∧ r = b) FF s') (MethodCall_ (wpAny_mono (EvJ.name hf hn A s X t) (fun v s₁ q => ?_) fun _ _ f => f) he) (fun v s₂ q => ?_) fun _ _ f => f)
  · obtain ⟨e₁, r⟩ := q
    (first | refine r.eg ?_ | refine r.eb ?_ | refine r.en ?_ | refine r.e0 ?_ | refine r.el fun _ => ?_ | cases r)
    obtain ⟨pat, fl, codes, oc, its, kc, h1, h2, h3, h4⟩ := hp.is
    have K1 := fun {a o} (q : c.K.lookup a = some o) => (t.ok.ext0 e₁).keep _ _ (c.base.K _ _ q)
    refine getMethod_builtin (T := "re.Pattern") (id := "re.Pattern.search") ⟨_, K1 h1, rfl⟩ plain_pattern slot_search type_search (fun a q => by (first | refine q.eg ?_ | refine q.eb ?_ | refine q.en ?_ | refine q.e0 ?_ | refine q.el fun _ => ?_ | cases q); exact ⟨_, K1 h1, rfl⟩) ?_
    refine callWith_builtin hpl (evalArgs_any hns (wpAny_mono ((EvL.cons h .nil hse) A s₁ X pos (t.ext e₁)) (fun vs s₂ q => ?_) fun _ _ f => f.elim))
    obtain ⟨e₂, r⟩ := q
    refine r.ec fun _ _ r0 r1 => ?_
    (first | refine r1.eg ?_ | refine r1.eb ?_ | refine r1.en ?_ | refine r1.e0 ?_ | refine r1.el fun _ => ?_ | cases r1)
    refine r0.el fun tk => ?_
    exact wpAny_mono (search_call (e₂.all _ _ (K1 h1)) (e₂.all _ _ (K1 h2)) h3 h4 hx hb) (fun v s₃ q => ⟨(e₁.trans e₂).trans q.1, q.2⟩) fun _ _ f => f
  · refine wpAny_bind (wpAny_standAt (wpAny_holding (wpAny_mono q.2 (fun r s₃ q' => ?_) fun _ _ f => f)))
    rw [q'.1]; exact ⟨q.1, q'.2⟩

/-! texts -/
theorem getM_lower {x : Str} : GetM c n (.str x) "lower" "str.lower" := fun A s X v pl t r => by (first | refine r.eg ?_ | refine r.eb ?_ | refine r.en ?_ | refine r.e0 ?_ | refine r.el fun _ => ?_ | cases r); (with_reducible refine GM.lower ?_); exact ⟨rfl, rfl⟩
theorem getM_find {x : Str} : GetM c n (.str x) "find" "str.find" := fun A s X v pl t r => by (first | refine r.eg ?_ | refine r.eb ?_ | refine r.en ?_ | refine r.e0 ?_ | refine r.el fun _ => ?_ | cases r); (with_reducible refine GM.find ?_); exact ⟨rfl, rfl⟩
theorem fn_lower {x : Str} (hx : x.length ≤ 5592405) : FnJ c (.builtin "str.lower") n [.str x] (.str (Txt.lower x)) := fun A s X vs t r => by
  refine r.ec fun _ _ r0 r1 => ?_
  (first | refine r1.eg ?_ | refine r1.eb ?_ | refine r1.en ?_ | refine r1.e0 ?_ | refine r1.el fun _ => ?_ | cases r1); (first | refine r0.eg ?_ | refine r0.eb ?_ | refine r0.en ?_ | refine r0.e0 ?_ | refine r0.el fun _ => ?_ | cases r0); exact SCL.lower hx fun _ => ⟨.toks .., .str ..⟩
theorem fn_find {x y : Str} : FnJ c (.builtin "str.find") n [.str x, .str y] (.int (Txt.find x y)) := fun A s X vs t r => by
  refine r.ec fun _ _ r0 r1 => ?_
  refine r1.ec fun _ _ r1 r2 => ?_
  (first | refine r2.eg ?_ | refine r2.eb ?_ | refine r2.en ?_ | refine r2.e0 ?_ | refine r2.el fun _ => ?_ | cases r2); (first | refine r0.eg ?_ | refine r0.eb ?_ | refine r0.en ?_ | refine r0.e0 ?_ | refine r0.el fun _ => ?_ | cases r0); (first | refine r1.eg ?_ | refine r1.eb ?_ | refine r1.en ?_ | refine r1.e0 ?_ | refine r1.el fun _ => ?_ | cases r1); exact SC.find ⟨.toks .., .int ..⟩

theorem slice_str_from {x : Str} {v e : Expr} {i : Int} {p pos : Pos} (hv : EvJ c env n ρ v (.str x)) (he : EvJ c env n ρ e (.int i)) (hz : x.length ≤ sizeLine)
    (hs : ∀ x t a, subscripted (.Slice (some e) none none p) false (.str x t) (.ref a) = operate [.ref a, .str x t] (getItem (.str x t) (.ref a)) := by intro _ _ _; with_unfolding_all rfl)
    (ht : ∀ x t r, letTemporaryGo v (.str x t) r = pure () := by intro _ _ _; with_unfolding_all rfl) :
    EvJ c env n ρ (.Subscript v (.Slice (some e) none none p) pos) (.str (Txt.slice x (some i) none)) := fun A s X t => by
  refine Subscript_ (wpAny_mono (hv A s X t) (fun o s₁ q => ?_) fun _ _ f => f.elim)
  obtain ⟨e₁, r⟩ := q
  refine r.el fun ts => ?_
  refine wpAny_Slice ?_
  rw [evalPart_some]
  refine wpAny_mono (he A s₁ X (t.ext e₁)) (fun k s₂ q => ?_) fun _ _ f => f.elim
  obtain ⟨e₂, r⟩ := q
  refine r.el fun tk => ?_
  rw [evalPart_none]
  refine wpAny_pure ?_
  refine wpAny_pure ?_
  refine tail_of_ItemOn (SBH.sliceItem_sn (P := fun h => (∀ b o, s₂.heap.get? b = some o → h.get? b = some o) ∧ s₂.heap.objs.size ≤ h.objs.size) (fun h ob q => ⟨fun b o e => Heap.get?_push_of_some _ (q.1 b o e), by rw [push_size]; exact Nat.le_succ_of_le q.2⟩)
    ⟨fun _ _ e => e, Nat.le_refl _⟩ (fun h' t' k q => ⟨(e₁.trans e₂).trans ?_, .str ..⟩) hz) (hs _ _ _) (ht _ _)
  exact .of (fun b o _ e => q.1 b o e) q.2

/-! more tests -/
theorem TestJ.list {e : Expr} {ds : List D} (h : EvJ c env n ρ e (.list ds)) (hz : ds.length < 1000000) (he : isTrue e env (eval e env) = (do let v ← eval e env; standAt e.pos; holding [v] (truthy v)) := by rfl) : TestJ c env n ρ e (!ds.isEmpty) := fun A s X t => by
  refine wpAny_isTrue_value (wpAny_mono (h A s X t) (fun v s₁ q => ?_) fun _ _ f => f) he
  obtain ⟨x, r⟩ := q
  refine r.el fun _ _ _ ha hX rl => ?_
  have hl := rl.length
  refine wpAny_truthy_list ⟨_, ha, rfl, _, rfl⟩ (by simp only [List.size_toArray]; omega) ⟨x.trans (.toks ..), ?_⟩
  cases ds with
  | nil => (first | refine rl.eg ?_ | refine rl.eb ?_ | refine rl.en ?_ | refine rl.e0 ?_ | refine rl.el fun _ => ?_ | cases rl); rfl
  | cons => (first | refine rl.eg ?_ | refine rl.eb ?_ | refine rl.en ?_ | refine rl.e0 ?_ | refine rl.el fun _ => ?_ | cases rl); rfl

theorem fn_isinstance_tuple {ds : List D} : FnJ c (.builtin "isinstance") n [.tup ds, .glob (.type "tuple")] (.bool true) := fun A s X vs t r => by
  refine r.ec fun _ _ r0 r1 => ?_
  refine r1.ec fun _ _ r1 r2 => ?_
  (first | refine r2.eg ?_ | refine r2.eb ?_ | refine r2.en ?_ | refine r2.e0 ?_ | refine r2.el fun _ => ?_ | cases r2); (first | refine r1.eg ?_ | refine r1.eb ?_ | refine r1.en ?_ | refine r1.e0 ?_ | refine r1.el fun _ => ?_ | cases r1)
  refine r0.el fun _ _ _ ha hX rl => ?_
  exact IsiPair.tuple_tuple ha rfl ⟨.refl .., .bool _⟩
end
end Mine
namespace Mine

/-- the comparing class, as the text's top leaves it -/
structure ClsOk (c : Wd) (fI fM : Addr) : Prop where
  makes : makesIn c.K CLS = true
  init : findIn c.K (.ref CLS) "__init__" = some (some (.ref fI))
  fn : typeIn c.K (.ref fI) = some (.type "function")
  setattr : findIn c.K (.ref CLS) "__setattr__" = some (some (.builtin "object.__setattr__"))
  over : plainOver c.K CLS = true
  taker : takerIn c.K CLS "comp_select_list" = some none
  hd : hasDictIn c.K CLS = true
  plainA : plainGet c.K CLS "comp_select_list" = true
  noA : findIn c.K (.ref CLS) "comp_select_list" = some none
  plainM : plainGet c.K CLS "compare" = true
  meth : findIn c.K (.ref CLS) "compare" = some (some (.ref fM))
  isfn : isFn c.K (.ref fM) = true
  keep : keepIn c.K (.ref CLS) = true
  keepM : keepIn c.K (.ref fM) = true

theorem under_tc (A : Around) (a : Addr) (rest : List Value) (kw : List (Str × Value)) : (A.under (.builtin "type.__call__" ⟨.ref a :: rest, kw⟩)).handled = A.handled ∧ (A.under (.builtin "type.__call__" ⟨.ref a :: rest, kw⟩)).depth = A.depth + 1 := ⟨rfl, rfl⟩

section
variable {c : Wd} {env : Env} {ρ ρ' ρc : Ro} {n : Nat} {A : Around} {X W : Addr → Prop} {s s' : Shared} {R : FlowD → Prop}

theorem make_comp {fI fM : Addr} {d : D} {qual : Str} {sp vp np ap : Pos} {spos : Pos} (CO : ClsOk c fI fM)
    (D₀ : DefAt c fI qual [.Assign [.Attribute (.Name "self" np) "comp_select_list" ap] (.Name "comp_select_list" vp) spos] [("self", .local), ("comp_select_list", .local)] ["self", "comp_select_list"]) :
    FnJ c (.ref CLS) (n + 3) [d] (.inst d) := fun A s X vs t r => by
  refine r.ec fun v _ r0 r1 => ?_
  (first | refine r1.eg ?_ | refine r1.eb ?_ | refine r1.en ?_ | refine r1.e0 ?_ | refine r1.el fun _ => ?_ | cases r1)
  obtain ⟨hh, g, dr, tk, os⟩ := s
  have KI : ∀ {h' : Heap}, (∀ b o, hh.get? b = some o → h'.get? b = some o) → c.K.In h' := fun k a o e => k _ _ (t.ok.keep _ _ (c.base.K _ _ e))
  refine wpAny_call (make_core (makes_of (KI fun _ _ e => e) CO.makes) (looks_findIn (KI fun _ _ e => e) CO.init) (fun self => bind_fn (KI fun _ _ e => e) self CO.fn) (.inl rfl) ?_)
  have hroom := t.room.d
  obtain ⟨o, fd, cc, oc, fvs, tt, ho, hfd, hcc, hoc, hocd, hq, hb, hcl, hnm, hgl, hbl, hco, hgen, hk, hbind⟩ := D₀.is
  generalize hx : (hh.objs.size + 1 : Addr) = x
  generalize hdx : hh.objs.size = dx at *
  have hxN : @Eq Nat x (hh.objs.size + 1) := by rw [← hx, ← hdx]
  have hdN : @Eq Nat dx hh.objs.size := hdx.symm
  generalize hH : (hh.push emptyDict).push (instObj CLS dx) = H
  have hz : H.objs.size = hh.objs.size + 2 := by rw [← hH, push_size, push_size]
  have kH : ∀ b o, hh.get? b = some o → H.get? b = some o := fun b o e => by rw [← hH]; exact Heap.get?_push_of_some _ (Heap.get?_push_of_some _ e)
  have gdx : H.get? dx = some emptyDict := by rw [← hH, ← hdx]; exact Heap.get?_push_of_some _ (Heap.get?_push_size _ rfl)
  have gx : H.get? x = some (instObj CLS dx) := by
    rw [← hH, ← hx, ← hdx, show hh.objs.size + 1 = (hh.push emptyDict).objs.size from (push_size ..).symm]; exact Heap.get?_push_size _ rfl
  have hvl : ([.ref x, v] : List Value).length = ["self", "comp_select_list"].length := rfl
  refine codeAny_call_cells (o := o) (fd := fd) (s := ⟨H, g, dr, tk, os⟩) (binds := (["self", "comp_select_list"] : List Str).zip [.ref x, v]) (by rw [(under_tc ..).2]; show A.depth + 1 < 1000; omega) (kH _ _ (KI (fun _ _ e => e) _ _ ho)) hfd ?_
    ⟨cc, oc, fvs, tt, hcc, kH _ _ (KI (fun _ _ e => e) _ _ hoc), hocd, hq⟩ hb (hbind _ hvl) hcl (fun p hp => ?_) (fun s₁ C => ?_) hco hgen hk
  · exact (c.base.nolimit.keeps t.ok.keep).keeps kH
  · left; rw [hnm]
    rcases List.mem_cons.mp hp with rfl | hp
    · rfl
    · rcases List.mem_cons.mp hp with rfl | hp
      · rfl
      · cases hp
  generalize henv : callEnvC fd H.objs.size fI = env at C ⊢
  have e_loc : env.locals = H.objs.size := by rw [← henv]; rfl
  have e_sc : env.scope = fd.scope := by rw [← henv]; rfl
  have hkind : ∀ y k, ([("self", NameKind.local), ("comp_select_list", NameKind.local)] : List (Str × NameKind)).lookup y = some k → env.kindOf y = some k := fun y k e => by
    unfold Env.kindOf; rw [e_sc, hnm]; exact e
  have hfun : env.scope.kind = .function := by rw [e_sc]; exact hk
  obtain ⟨h₁, tk₁, rfl⟩ := C.toInCall.same
  have ns := C.toInCall.ns
  have keep1 := C.toInCall.keep
  dsimp only at ns keep1
  have hself : bindL env.kindOf ((["self", "comp_select_list"] : List Str).zip [.ref x, v]) (fun _ => none) "self" = some (.ref x) := bindL_at _ _ _ _ (show (["self", "comp_select_list"] : List Str).Nodup by decide) (.head _) (hkind _ _ rfl)
  have hcsl : bindL env.kindOf ((["self", "comp_select_list"] : List Str).zip [.ref x, v]) (fun _ => none) "comp_select_list" = some v := bindL_at _ _ _ _ (show (["self", "comp_select_list"] : List Str).Nodup by decide) (.tail _ (.head _)) (hkind _ _ rfl)
  have F : Fr hh env.locals h₁ _ := ⟨ns, fun b o e => keep1 _ _ (kH b o e), by rw [e_loc, hz]; exact Nat.le_trans (Nat.le_succ _) (Nat.le_succ _)⟩
  have noh : ∀ b : Nat, hh.objs.size ≤ b → hh.get? b = none := fun b hb => by
    cases q : hh.get? b with
    | none => rfl
    | some o => exact absurd (Heap.lt_size q) (Nat.not_lt.mpr hb)
  have N : News hh env.locals h₁ [(x, instObj CLS dx), (dx, dictOf [] 0)] := fun p hp => by
    rcases List.mem_cons.mp hp with rfl | hp
    · refine ⟨keep1 _ _ gx, ?_, noh _ (by show @LE.le Nat _ _ x; omega)⟩
      rw [e_loc, hz]; show @Ne Nat x _; omega
    · rcases List.mem_cons.mp hp with rfl | hp
      · refine ⟨keep1 _ _ gdx, ?_, noh _ (by show @LE.le Nat _ _ dx; omega)⟩
        rw [e_loc, hz]; show @Ne Nat dx _; omega
      · cases hp
  have I : InstAt h₁ x (instObj CLS dx) CLS (some (dictOf [] 0)) := ⟨keep1 _ _ gx, rfl, rfl, keep1 _ _ gdx⟩
  have hxd : x ≠ dx := by show @Ne Nat x dx; omega
  refine wpAny_execs_cons (plainObj_wpAny_Assign_Attribute (wpAny_Name (wpAny_loadName_local hfun (hkind _ _ rfl) ns hcsl (wpAny_Name (wpAny_loadName_local hfun (hkind _ _ rfl) ns hself ?_)))))
  refine set_dict (news' := [(x, instObj CLS dx), (dx, dictOf [⟨PyData.keyHash c.w.params "comp_select_list", .str "comp_select_list" (tk₁ + 1), v⟩] 1)]) F (KI fun _ _ e => e) N I rfl CO.setattr CO.over CO.taker CO.hd rfl rfl (.tail hxd (.head fun p hp => nomatch hp)) (Nat.le_of_ble_eq_true rfl) fun h₂ F₂ N₂ => ?_
  refine wpAny_execs_nil ?_
  refine ⟨rfl, ?_⟩
  have gx2 := (N₂ _ (.head _)).1
  have gd2 := (N₂ _ (.tail _ (.head _))).1
  have hX : ∀ b : Nat, hh.objs.size ≤ b → ¬ X b := fun b hb q => Nat.lt_irrefl _ (Nat.lt_of_lt_of_le (t.x b q) hb)
  have e : Ext No ⟨hh, g, dr, tk, os⟩ ⟨h₂, g, dr, tk₁ + 2, os⟩ := .of (s := ⟨hh, g, dr, tk, os⟩) (fun b o _ e => F₂.keep b o e) (by
    have := Heap.lt_size gx2
    have : @LT.lt Nat _ x h₂.objs.size := this
    show hh.objs.size ≤ h₂.objs.size
    omega)
  refine ⟨e, .inst gx2 gd2 (hX _ (by show @LE.le Nat _ _ x; omega)) (hX _ (by show @LE.le Nat _ _ dx; omega)) rfl rfl (r0.ext0 e)⟩
end
end Mine
namespace Mine
section
variable {c : Wd} {env : Env} {ρ ρ' ρc : Ro} {n : Nat} {A : Around} {X W : Addr → Prop} {s s' : Shared} {R : FlowD → Prop}

theorem St.kin (t : St c env ρ n A X s) : c.K.In s.heap := fun a o e => t.ok.keep _ _ (c.base.K _ _ e)

theorem EvJ.callK {f : Str} {a : Addr} {e : Expr} {rest : List Expr} {ds : List D} {d : D} {p pos : Pos} (hf : (f, D.glob (.ref a)) ∈ ρ) (hk : keepIn c.K (.ref a) = true) (hs : EvL c env n ρ (e :: rest) ds) (h : FnJ c (.ref a) n ds d)
    (he : starEach (e :: rest) env = (false, eval e env) :: starEach rest env := by rfl) (hplain : (backTo pos (starEach rest env)).any (·.1) = false := by rfl)
    (hn : (f == ("__debug__" : Str)) = false := by decide) : EvJ c env n ρ (.Call (.Name f p) (e :: rest) [] pos) d := fun A s X t => by
  refine PyProof.Rows.Call_ (wpAny_mono (EvJ.name hf hn A s X t) (fun v s₁ q => ?_) fun _ _ f => f) (by rfl)
  obtain ⟨x, r⟩ := q
  (first | refine r.eg ?_ | refine r.eb ?_ | refine r.en ?_ | refine r.e0 ?_ | refine r.el fun _ => ?_ | cases r)
  refine callWith_K (t.ext x).kin hk (wpAny_mono (hs A s₁ X pos (t.ext x)) (fun vs s₂ q => ⟨((t.ext x).ext q.1).kin, ?_⟩) fun _ _ f => f.elim) he hplain
  exact wpAny_mono (h A s₂ X vs ((t.ext x).ext q.1).sv q.2) (fun v s₃ q' => ⟨(x.trans q.1).trans q'.1, q'.2⟩) fun _ _ f => f

theorem ev_attr {fI fM : Addr} {y : Str} {d : D} {np ap : Pos} (CO : ClsOk c fI fM) (hy : (y, D.inst d) ∈ ρ) (hh : ∀ X h v, Rep c.prog c.w X h v d → handedIn v = true) (hn : (y == ("__debug__" : Str)) = false := by decide) :
    EvJ c env n ρ (.Attribute (.Name y np) "comp_select_list" ap) d := fun A s X t => by
  refine Attribute_Name_ (wpAny_mono (EvJ.name hy hn A s X t) (fun v s₁ q => ?_) fun _ _ f => f) (by rfl)
  obtain ⟨x, r⟩ := q
  refine r.el fun a dx es k v g1 g2 nx nd l1 l2 rd => ?_
  exact get_value (od := some (dictOf es k)) (t.ext x).kin ⟨g1, rfl, rfl, g2⟩ (plainGet_of CO.plainA).1 (findObj_own CO.hd CO.noA rfl l1) (hh _ _ _ rd) ⟨x.trans (.toks ..), rd⟩

theorem ev_compare {fI fM : Addr} {y : Str} {d d₀ : D} {e : Expr} {rest : List Expr} {ds : List D} {np ap pos : Pos} {pl : Sem Bool} (CO : ClsOk c fI fM) (hy : (y, D.inst d₀) ∈ ρ) (hs : EvL c env n ρ (e :: rest) ds) (h : FnJ c (.ref fM) n (.inst d₀ :: ds) d) (hn : (y == ("__debug__" : Str)) = false := by decide)
    (hse : starEach (e :: rest) env = (false, eval e env) :: starEach rest env := by rfl) (hplain : (backTo pos (starEach rest env)).any (·.1) = false := by rfl)
    (he : eval (.Call (.Attribute (.Name y np) "compare" ap) (e :: rest) [] pos) env = (do
      let ov ← eval (.Name y np) env
      standAt ap.atName
      let (f, first) ← holding [ov] (getMethod ov "compare" pl)
      callWith pos f first (backTo pos (starEach (e :: rest) env)) []) := by rfl) :
    EvJ c env n ρ (.Call (.Attribute (.Name y np) "compare" ap) (e :: rest) [] pos) d := fun A s X t => by
  refine MethodCall_ (wpAny_mono (EvJ.name hy hn A s X t) (fun v s₁ q => ?_) fun _ _ f => f.elim) he
  obtain ⟨x, r⟩ := q
  refine r.el fun a dx es k v g1 g2 nx nd l1 l2 rd => ?_
  have r' : Rep c.prog c.w X s₁.heap (.ref a) (.inst d₀) := .inst g1 g2 nx nd l1 l2 rd
  refine method_fn (od := some (dictOf es k)) (t.ext x).kin ⟨g1, rfl, rfl, g2⟩ (plainGet_of CO.plainM).1 (plainGet_of CO.plainM).2 CO.meth (beq_iff_eq.mp CO.isfn) (by show (lookIn _ (dictOf _ _)).map _ = _; rw [lookIn_dict, l2]; rfl) ?_
  refine callWith_K (t.ext x).kin CO.keepM (wpAny_mono (hs A s₁ X pos (t.ext x)) (fun vs s₂ q => ⟨((t.ext x).ext q.1).kin, ?_⟩) fun _ _ f => f.elim) hse hplain
  exact wpAny_mono (h A s₂ X _ ((t.ext x).ext q.1).sv (.cons (r'.ext0 q.1) q.2)) (fun v s₃ q' => ⟨(x.trans q.1).trans q'.1, q'.2⟩) fun _ _ f => f

theorem handed_list {ds : List D} : ∀ X h v, Rep c.prog c.w X h v (.list ds) → handedIn v = true := fun X h v r => r.el fun _ _ _ _ _ _ => rfl
end
end Mine
namespace Mine

noncomputable def Ex1Z (c : Wd) (z : Zt c) (env : Env) (n : Nat) (ρ : Ro) (st : Stmt) (R : FlowD → Prop) : Prop := ∀ A s X, St c env ρ n A X s → (∀ b, z.Z b → X b) → z.Inv s.heap →
  wpAny (model c.prog c.w) A (exec st env) (fun f s' => Ext (fun b => Loc env b ∨ z.Z b) s s' ∧ z.Inv s'.heap ∧ ∃ r, R r ∧ OutD c env X f s' r) FF s
noncomputable def FnZ (c : Wd) (z : Zt c) (f : Value) (n : Nat) (ds : List D) (d : D) : Prop := ∀ A s X vs, Sv c n A X s → (∀ b, z.Z b → X b) → z.Inv s.heap → RepL c.prog c.w X s.heap vs ds →
  wpAny (model c.prog c.w) A (call f vs) (fun v s' => Ext z.Z s s' ∧ z.Inv s'.heap ∧ Rep c.prog c.w X s'.heap v d) FF s
noncomputable def EvZ (c : Wd) (z : Zt c) (env : Env) (n : Nat) (ρ : Ro) (e : Expr) (d : D) : Prop := ∀ A s X, St c env ρ n A X s → (∀ b, z.Z b → X b) → z.Inv s.heap →
  wpAny (model c.prog c.w) A (eval e env) (fun v s' => Ext z.Z s s' ∧ z.Inv s'.heap ∧ Rep c.prog c.w X s'.heap v d) FF s

section
variable {c : Wd} {z : Zt c} {env : Env} {ρ ρ' : Ro} {n : Nat} {A : Around} {X W : Addr → Prop} {s s' : Shared} {R R' : FlowD → Prop}

theorem St.moveZ (t : St c env ρ n A X s) (e : Ext (fun b => Loc env b ∨ z.Z b) s s') (v : EnvOk c env ρ' X s'.heap) : St c env ρ' n A X s' :=
  ⟨t.room, t.ok.extZ e fun b q => q.elim (fun q => get_none_le (t.env.toFrm.lo' b q)) (z.none b), fun a h => Nat.lt_of_lt_of_le (t.x a h) e.size, v⟩

theorem EnvOk.extZ (f : EnvOk c env ρ X s.heap) (e : Ext z.Z s s') (k : ∀ b, z.Z b → X b) : EnvOk c env ρ X s'.heap := by
  have hl : ¬ z.Z env.locals := fun q => Nat.lt_irrefl _ (Nat.lt_of_lt_of_le (z.lt _ q) f.lo)
  have hc : ∀ m b, env.cells.lookup m = some b → ¬ z.Z b := fun m b h q => Nat.lt_irrefl _ (Nat.lt_of_lt_of_le (z.lt _ q) (f.cell m b h).2.2.2)
  refine ⟨⟨f.kind, f.glob, f.blt, f.ns.imp fun _ ⟨o, es, ep, b1, b2⟩ => ⟨o, es, ep, e.keep _ _ hl b1, b2⟩, f.xl, f.lo, fun m a h => ?_, f.inj⟩, fun x d hx => ?_⟩
  · obtain ⟨⟨ov, ⟨o, a1, a1'⟩⟩, a2, a3⟩ := f.cell m a h
    exact ⟨⟨ov, ⟨o, e.keep _ _ (hc m a h) a1, a1'⟩⟩, a2, a3⟩
  · obtain ⟨v, q, r⟩ := f.val x d hx
    refine ⟨v, ?_, r.ext e k⟩
    rcases q with ⟨a, m, ⟨o, es, ep, b1, b2⟩, m'⟩ | ⟨a, g, b, ⟨o, d1, d2⟩⟩ | q
    · exact .inl ⟨a, m, ⟨o, es, ep, e.keep _ _ hl b1, b2⟩, m'⟩
    · exact .inr (.inl ⟨a, g, b, ⟨o, e.keep _ _ (hc _ _ b) d1, d2⟩⟩)
    · exact .inr (.inr q)
theorem St.extZ (t : St c env ρ n A X s) (e : Ext z.Z s s') (k : ∀ b, z.Z b → X b) : St c env ρ n A X s' :=
  t.moveZ (z := z) (e.mono fun _ _ q => .inr q) (t.env.extZ e k)

theorem Ex1Z.of {st : Stmt} (h : Ex1 c env n ρ st R) : Ex1Z c z env n ρ st R := fun A s X t zx i =>
  wpAny_mono (h A s X t) (fun f s₁ q => ⟨q.1.mono fun _ _ q => .inl q, z.ext i q.1 t.env.toFrm.lo', q.2⟩) fun _ _ f => f
theorem ExZ.of {ss : List Stmt} (h : ExJ c env n ρ ss R) : ExZ c z env n ρ ss R := fun A s X t zx i =>
  wpAny_mono (h A s X t) (fun f s₁ q => ⟨q.1.mono fun _ _ q => .inl q, z.ext i q.1 t.env.toFrm.lo', q.2⟩) fun _ _ f => f
theorem ExZ.nil (h : R (.next ρ)) : ExZ c z env n ρ [] R := ExZ.of (ExJ.nil h)
theorem ExZ.sub {ss : List Stmt} (h : ExZ c z env n ρ' ss R) (k : ∀ p ∈ ρ', p ∈ ρ) : ExZ c z env n ρ ss R := fun A s X t => h A s X (t.sub k)

theorem ExZ.seq {st : Stmt} {ss : List Stmt} (h : Ex1Z c z env n ρ st R') (hn : ∀ ρ', R' (.next ρ') → ExZ c z env n ρ' ss R) (hr : ∀ d, R' (.ret d) → R (.ret d)) : ExZ c z env n ρ (st :: ss) R := fun A s X t zx i => by
  refine wpAny_execs_cons (wpAny_mono (h A s X t zx i) (fun f s₁ q => ?_) fun _ _ f => f)
  obtain ⟨e, i₁, r, hr', ho⟩ := q
  cases r with
  | next ρ' =>
    obtain ⟨rfl, ho⟩ := ho
    exact wpAny_mono (hn ρ' hr' A s₁ X (t.moveZ e ho) zx i₁) (fun f s₂ q => ⟨e.trans q.1, q.2⟩) fun _ _ f => f
  | ret d =>
    obtain ⟨v, rfl, ho⟩ := ho
    exact ⟨e, i₁, _, hr d hr', v, rfl, ho⟩
theorem ExZ.one {st : Stmt} {ss : List Stmt} {ρ₁ : Ro} (h : Ex1 c env n ρ st (· = .next ρ₁)) (hn : ExZ c z env n ρ₁ ss R) : ExZ c z env n ρ (st :: ss) R :=
  ExZ.seq (Ex1Z.of h) (fun ρ' e => by cases e; exact hn) (fun d e => by cases e)
theorem ExZ.ifret {test e : Expr} {ss : List Stmt} {pos rp : Pos} {d : D} (h : TestJ c env n ρ test false) (hn : ExZ c z env n ρ ss R) : ExZ c z env n ρ (.If test [.Return (some e) rp] [] pos :: ss) R :=
  ExZ.one (Ex1.if (R := (· = .next ρ)) h (fun q => by (first | refine q.eg ?_ | refine q.eb ?_ | refine q.en ?_ | refine q.e0 ?_ | refine q.el fun _ => ?_ | cases q)) (fun _ => ExJ.nil rfl)) hn
theorem ExZ.assign {x : Str} {e : Expr} {d : D} {p pos : Pos} {ss : List Stmt} (h : EvJ c env n ρ e d) (hx : Own env x) (hn : ExZ c z env n ((x, d) :: dropN x ρ) ss R)
    (hs : swapsWith e (some (.Name x p)) pos.line env = pure false := by rfl) : ExZ c z env n ρ (.Assign [.Name x p] e pos :: ss) R := ExZ.one (Ex1.assign h hx hs) hn
theorem Ex1Z.assign {x : Str} {e : Expr} {d : D} {p pos : Pos} (h : EvZ c z env n ρ e d) (hx : Own env x) (hs : swapsWith e (some (.Name x p)) pos.line env = pure false := by rfl) :
    Ex1Z c z env n ρ (.Assign [.Name x p] e pos) (· = .next ((x, d) :: dropN x ρ)) := fun A s X t zx i => by
  refine wpAny_Assign_Name (wpAny_mono (h A s X t zx i) (fun v s₁ q => ?_) fun _ _ f => f) hs
  obtain ⟨e₁, i₁, r⟩ := q
  have t₁ := t.extZ e₁ zx
  exact wpAny_mono (store_own t₁ hx r) (fun _ s₂ q' => ⟨(e₁.mono fun _ _ q => .inr q).trans (q'.1.mono fun _ _ q => .inl q), z.ext i₁ q'.1 t.env.toFrm.lo', _, rfl, rfl, q'.2⟩) fun _ _ f => f
theorem ExZ.assignZ {x : Str} {e : Expr} {d : D} {p pos : Pos} {ss : List Stmt} (h : EvZ c z env n ρ e d) (hx : Own env x) (hn : ExZ c z env n ((x, d) :: dropN x ρ) ss R)
    (hs : swapsWith e (some (.Name x p)) pos.line env = pure false := by rfl) : ExZ c z env n ρ (.Assign [.Name x p] e pos :: ss) R :=
  ExZ.seq (Ex1Z.assign h hx hs) (fun ρ' e => by cases e; exact hn) (fun d e => by cases e)
theorem ExZ.ret {e : Expr} {d : D} {pos : Pos} {ss : List Stmt} (h : EvJ c env n ρ e d) (hR : R (.ret d)) : ExZ c z env n ρ (.Return (some e) pos :: ss) R := ExZ.of (ExJ.ret h hR)

theorem EvZ.call {f : Str} {a : Addr} {es : List Expr} {ds : List D} {d : D} {p pos : Pos} (hf : (f, D.glob (.ref a)) ∈ ρ) (hd : IsDef c a) (hs : EvL c env n ρ es ds) (h : FnZ c z (.ref a) n ds d)
    (hns : NoStar (backTo pos (starEach es env)) := by first | exact .inr ⟨_, _, rfl⟩ | exact .inl rfl)
    (hn : (f == ("__debug__" : Str)) = false := by decide) : EvZ c z env n ρ (.Call (.Name f p) es [] pos) d := fun A s X t zx i => by
  refine PyProof.Rows.Call_ (wpAny_mono (EvJ.name hf hn A s X t) (fun v s₁ q => ?_) fun _ _ f => f) (by rfl)
  obtain ⟨x, r⟩ := q
  (first | refine r.eg ?_ | refine r.eb ?_ | refine r.en ?_ | refine r.e0 ?_ | refine r.el fun _ => ?_ | cases r)
  obtain ⟨o, fd, ho, hfd⟩ := hd.is
  refine callWith_function (o := o) (fd := fd) (evalArgs_any hns (wpAny_mono (hs A s₁ X pos (t.ext x)) (fun vs s₂ q => ⟨⟨?_, hfd⟩, ?_⟩) fun _ _ f => f))
  · exact (((t.ok.ext0 x).ext0 q.1).keep _ _ (c.base.K _ _ ho))
  · exact wpAny_mono (h A s₂ X vs ((t.ext x).ext q.1).sv zx (z.ext0 i (x.trans q.1)) q.2) (fun v s₃ q' => ⟨(x.trans q.1).no.trans q'.1, q'.2⟩) fun _ _ f => f
end
end Mine
namespace Mine
section
variable {c : Wd} {z : Zt c} {env : Env} {ρ ρ' : Ro} {n : Nat} {A : Around} {X W : Addr → Prop} {s s' : Shared} {R R' : FlowD → Prop}

theorem Ex1Z.for {target iter : Expr} {body : List Stmt} {pos : Pos} {ds : List D} (P : Nat → Ro → Prop) (hI : IterJ c env n ρ iter target ds) (h0 : P 0 ρ)
    (turn : ∀ i d ρi, ds[i]? = some d → P i ρi → ∃ ρi', AsgJ c env n ρi target d ρi' ∧ ExZ c z env n ρi' body (fun r => match r with | .next ρ' => P (i + 1) ρ' | .ret d => R (.ret d)))
    (done : ∀ ρ', P ds.length ρ' → R (.next ρ'))
    (hs : ∀ x, foldedSetIterable iter env x = pure x := by intro _; rfl) : Ex1Z c z env n ρ (.For target iter body [] pos) R := fun A s X t zx inv => by
  have hx0 : ∀ b, (Loc env b ∨ z.Z b) → X b := fun b q => q.elim (t.env.toFrm.loc b) (zx b)
  have hxA : ∀ b, LocA env b → X b := t.env.toFrm.locA
  have hlo : ∀ b, (Loc env b ∨ z.Z b) → c.hb.get? b = none := fun b q => q.elim (fun q => get_none_le (t.env.toFrm.lo' b q)) (z.none b)
  refine wpAny_For (wpAny_mono (hI A s X t) (fun v s₁ q => wpAny_mono q (fun it s₂ q => ?_) fun _ _ f => f.elim) fun _ _ f => f.elim) hs
  obtain ⟨e₂, I, W, rfl, hW, it⟩ := q
  obtain ⟨S, hS, it⟩ := it X fun b q => .inl q
  have hWX : ∀ b, W b → X b → False := fun b q q' => Nat.lt_irrefl _ (Nat.lt_of_lt_of_le (t.x b q') (hW b q).1)
  have t₂ : St c env ρ n A X s₂ := t.ext e₂
  have eY : EnvOk c env ρ (Un X W) s₂.heap := by
    refine ⟨⟨t₂.env.kind, t₂.env.glob, t₂.env.blt, t₂.env.ns, .inl t₂.env.xl, t₂.env.lo, fun n a h => let ⟨a1, a2, a3⟩ := t₂.env.cell n a h; ⟨a1, .inl a2, a3⟩, t₂.env.inj⟩, fun x d h => ?_⟩
    obtain ⟨v, a, b⟩ := t.env.val x d h
    exact ⟨v, a.ext0 e₂, (b.un fun b q => (hW b q).1).ext0 e₂⟩
  obtain ⟨J, hJ⟩ : ∃ J : Nat → Shared → Prop, ∀ k s', J k s' ↔ ∃ i ρi, k = ds.length + 1 - i ∧ i ≤ ds.length ∧ P i ρi ∧ Ext (Un (fun b => Loc env b ∨ z.Z b) W) s₂ s' ∧ Frm c.hb env X s'.heap ∧ EnvOk c env ρi (Un X W) s'.heap ∧ S i s'.heap ∧ z.Inv s'.heap := ⟨_, fun _ _ => Iff.rfl⟩
  refine codeAny_for' J ?_ (ds.length + 1) ((hJ _ _).mpr ⟨0, ρ, rfl, Nat.zero_le _, h0, .refl .., t₂.env.toFrm, eY, hS, z.ext0 inv e₂⟩)
  intro k s' hk
  obtain ⟨i, ρi, rfl, hi, hP, e', fr, ev, hS', iv⟩ := (hJ k s').mp hk
  have okm : ∀ {s''}, Ext (Un (fun b => Loc env b ∨ z.Z b) W) s₂ s'' → Ok c.hb s'' := fun e => t₂.ok.extZ e fun b q => q.elim (hlo b) fun q => get_none_le (Nat.le_trans t.ok.size (hW b q).1)
  have xm : ∀ {s''}, Ext (Un (fun b => Loc env b ∨ z.Z b) W) s₂ s'' → ∀ a, Un X W a → a < s''.heap.objs.size := fun e a q => by
    rcases q with q | q
    · exact Nat.lt_of_lt_of_le (t₂.x a q) e.size
    · exact Nat.lt_of_lt_of_le (hW a q).2 e.size
  have hWlo : ∀ b, W b → c.hb.objs.size ≤ b := fun b q => Nat.le_trans t.ok.size (hW b q).1
  have sv : Sv c n A (Un X W) s' := ⟨t.room, okm e', xm e'⟩
  have fin : ∀ {s''}, Ext (Un (fun b => Loc env b ∨ z.Z b) W) s₂ s'' → Ext (fun b => Loc env b ∨ z.Z b) s s'' := fun e => by
    exact ⟨fun b o nb eb => e.keep b o (fun q => q.elim nb fun q => Nat.lt_irrefl _ (Nat.lt_of_lt_of_le (Heap.lt_size eb) (hW b q).1)) (e₂.all b o eb), Nat.le_trans e₂.size e.size, e.os.trans e₂.os, fun g => e.gens (e₂.gens g)⟩
  cases hd : ds[i]? with
  | none =>
    have hin : i = ds.length := by have := List.getElem?_eq_none_iff.mp hd; omega
    subst hin
    refine wpAny_mono (it.done A s' sv hS') (fun r s₃ q => ?_) fun _ _ f => f.elim
    obtain ⟨rfl, e₃⟩ := q
    have e4 := e'.trans (e₃.mono fun _ _ q => .inr q)
    exact ⟨fin e4, z.ext iv e₃ hWlo, _, done ρi hP, rfl, (EnvOk.extW fr ev e₃ hWX).back hxA⟩
  | some d =>
    have hlt : i < ds.length := (List.getElem?_eq_some_iff.mp hd).1
    obtain ⟨ρi', ha, hb⟩ := turn i d ρi hd hP
    refine wpAny_mono (it.item A i s' d sv hS' hd) (fun r s₃ q => ?_) fun _ _ f => f.elim
    obtain ⟨v, rfl, e₃, q⟩ := q
    refine wpAny_mono q (fun _ s₄ q => ?_) fun _ _ f => f.elim
    obtain ⟨e₄, hS₄, r₄⟩ := q
    have e5 : Ext W s' s₄ := e₃.trans e₄
    have e6 : Ext (Un (fun b => Loc env b ∨ z.Z b) W) s₂ s₄ := e'.trans (e5.mono fun _ _ q => .inr q)
    have fr₄ := fr.extW e5 hWX
    have ev₄ := EnvOk.extW fr ev e5 hWX
    have t₄ : St c env ρi n A (Un X W) s₄ := ⟨t.room, okm e6, xm e6, ev₄⟩
    refine wpAny_mono (ha A s₄ _ v t₄ r₄) (fun _ s₅ q => ?_) fun _ _ f => f.elim
    obtain ⟨e₅, ev₅⟩ := q
    refine wpAny_mono (hb A s₅ _ (t₄.move e₅ ev₅) (fun b q => .inl (zx b q)) (z.ext (z.ext iv e5 hWlo) e₅ t.env.toFrm.lo')) (fun f s₆ q => ?_) fun _ _ f => f.elim
    obtain ⟨e₆, i₆, r, hr, ho⟩ := q
    have e₅ : Ext (fun b => Loc env b ∨ z.Z b) s₄ s₅ := e₅.mono fun _ _ q => .inl q
    have e7 : Ext (Un (fun b => Loc env b ∨ z.Z b) W) s₂ s₆ := e6.trans ((e₅.trans e₆).mono fun _ _ q => .inl q)
    have keep : ∀ b o, ¬ X b → s₄.heap.get? b = some o → s₆.heap.get? b = some o := fun b o nb e => (e₅.trans e₆).keep b o (fun q => nb (hx0 b q)) e
    cases r with
    | next ρ' =>
      obtain ⟨rfl, ho⟩ := ho
      exact ⟨ds.length + 1 - (i + 1), by omega, (hJ _ _).mpr ⟨i + 1, ρ', rfl, hlt, hr, e7, (ho.back hxA).toFrm, ho, it.frame _ _ _ hS₄ keep, i₆⟩⟩
    | ret d' =>
      obtain ⟨u, rfl, ho⟩ := ho
      exact ⟨fin e7, i₆, _, hr, u, rfl, ho.ofUn⟩
theorem Ex1.ofZ {st : Stmt} (h : Ex1Z c (Zt.nil c) env n ρ st R) : Ex1 c env n ρ st R := fun A s X t =>
  wpAny_mono (h A s X t (fun _ q => q.elim) trivial) (fun f s₁ q => ⟨q.1.mono fun _ _ q => q.elim id fun q => q.elim, q.2.2⟩) fun _ _ f => f
theorem Ex1.for {target iter : Expr} {body : List Stmt} {pos : Pos} {ds : List D} (P : Nat → Ro → Prop) (hI : IterJ c env n ρ iter target ds) (h0 : P 0 ρ)
    (turn : ∀ i d ρi, ds[i]? = some d → P i ρi → ∃ ρi', AsgJ c env n ρi target d ρi' ∧ ExJ c env n ρi' body (fun r => match r with | .next ρ' => P (i + 1) ρ' | .ret d => R (.ret d)))
    (done : ∀ ρ', P ds.length ρ' → R (.next ρ'))
    (hs : ∀ x, foldedSetIterable iter env x = pure x := by intro _; rfl) : Ex1 c env n ρ (.For target iter body [] pos) R := Ex1.ofZ (Ex1Z.for P hI h0 (fun i d ρi hd hP => (turn i d ρi hd hP).imp fun _ q => ⟨q.1, ExZ.of q.2⟩) done hs)
end
section
variable {c : Wd} {z : Zt c} {n : Nat}
theorem FnZ.of {a : Addr} {qual : Str} {body : List Stmt} {NM : List (Str × NameKind)} {ps : List Str} {ds : List D} {d : D} (D₀ : DefAt c a qual body NM ps) (GG : List (Str × Value))
    (hG : ∀ p ∈ GG, NM.lookup p.1 = some .globalImplicit ∧ Gl c p.1 p.2) (hl : ds.length = ps.length)
    (h : ∀ env, Fenv env NM NM → (∀ o fd, c.K.lookup a = some o → o.data = .func fd → env.code = fd.code) → ExZ c z env n (ps.zip ds ++ GG.map fun p => (p.1, D.glob p.2)) body (· = .ret d)) : FnZ c z (.ref a) (n + 1) ds d := fun A s X vs t zx inv r => by
  obtain ⟨o, fd, cc, oc, fvs, tt, ho, hfd, hcc, hoc, hocd, hq, hb, hcl, hnm, hgl, hbl, hco, hgen, hk, hbind⟩ := D₀.is
  have hvl : vs.length = ps.length := r.length.trans hl
  have K : ∀ a o, c.K.lookup a = some o → s.heap.get? a = some o := fun a o e => t.ok.keep _ _ (c.base.K _ _ e)
  have hmem : ∀ x ∈ ps.zip vs, x.1 ∈ ps := fun x hx => (List.of_mem_zip (a := x.1) (b := x.2) hx).1
  refine wpAny_call (codeAny_call_cells (o := o) (fd := fd) (body := body) (binds := ps.zip vs) t.room.depth (K _ _ ho) hfd (c.base.nolimit.keeps t.ok.keep) ⟨cc, oc, fvs, tt, hcc, K _ _ hoc, hocd, hq⟩ hb (hbind vs hvl) hcl
    (fun x hx => ?_) (fun s₁ C => ?_) hco hgen hk)
  · rcases D₀.own x.1 (hmem x hx) with q | q
    · exact .inl (hnm ▸ q)
    · exact .inr ⟨hnm ▸ q, cellsFrom_isSome _ _ (hnm ▸ q)⟩
  generalize henv : callEnvC fd s.heap.objs.size a = env at C ⊢
  have e_loc : env.locals = s.heap.objs.size := by rw [← henv]; rfl
  have hcd : ∀ o fd, c.K.lookup a = some o → o.data = .func fd → env.code = fd.code := fun o' fd' ho' hfd' => by
    rw [ho] at ho'; cases ho'; rw [hfd] at hfd'; cases hfd'; rw [← henv]; rfl
  have e_sc : env.scope = fd.scope := by rw [← henv]; rfl
  have e_cells : env.cells = cellsFrom (s.heap.objs.size + 1) NM [] := by rw [← henv, ← hnm]; rfl
  have F : Fenv env NM NM := ⟨by rw [e_sc, hnm], fun x hx => by rw [e_cells]; exact cellsFrom_isSome _ _ hx, fun x hx => by
    obtain ⟨a, ha⟩ := Option.isSome_iff_exists.mp (cellsFrom_isSome NM (s.heap.objs.size + 1) hx)
    exact ⟨a, by rw [e_cells]; exact ha, C.above x a (mem_of_lookup (by rw [e_cells]; exact ha))⟩, by rw [e_sc]; exact hk⟩
  have e1 : Ext No s s₁ := by
    obtain ⟨h₁, tk, rfl⟩ := C.toInCall.same
    exact .of (fun b o _ e => C.toInCall.keep b o e) (by have := C.toInCall.ns.lt; rw [e_loc] at this; exact Nat.le_of_lt this)
  have hcnd : (env.cells.map (·.1)).Nodup := by rw [e_cells]; exact cellsFrom_keys _ _ _ (fun _ _ _ h => nomatch h) D₀.nd .nil
  have lo : c.hb.objs.size ≤ s.heap.objs.size := t.ok.size
  have above : ∀ k b, env.cells.lookup k = some b → @LT.lt Nat _ s.heap.objs.size b := fun k b e => by
    have := C.above k b (mem_of_lookup e)
    rw [e_loc] at this; exact this
  let X' : Addr → Prop := fun b => X b ∨ Loc env b
  have hlt : ∀ k b, env.cells.lookup k = some b → b < s₁.heap.objs.size := fun k b e => (C.cell k b e).lt
  have x' : ∀ b, X' b → b < s₁.heap.objs.size := fun b q => by
    rcases q with q | rfl | ⟨_, k, e⟩
    · exact Nat.lt_of_lt_of_le (t.x b q) e1.size
    · exact C.toInCall.ns.lt
    · exact hlt k b e
  have grow : ∀ b o, ¬ X b → s.heap.get? b = some o → s₁.heap.get? b = some o ∧ ¬ X' b := fun b o nb e => by
    refine ⟨e1.all _ _ e, ?_⟩
    have hb := Heap.lt_size e
    rintro (q | rfl | ⟨_, k, e'⟩)
    · exact nb q
    · rw [e_loc] at hb; exact Nat.lt_irrefl _ hb
    · exact Nat.lt_asymm hb (above k b e')
  have E : EnvOk c env (ps.zip ds ++ GG.map fun p => (p.1, D.glob p.2)) X' s₁.heap := by
    refine ⟨⟨F.plain, by rw [← henv]; exact hgl, by rw [← henv]; exact hbl, ⟨_, C.toInCall.ns⟩, .inr (.inl rfl), by rw [e_loc]; exact lo, fun k b e => ?_, fun k k' b h1 h2 => ?_⟩, fun x dx hx => ?_⟩
    · exact ⟨⟨_, C.cell k b e⟩, .inr (.inr ⟨by rw [e_loc]; exact above k b e, k, e⟩), by rw [e_loc]; exact Nat.ne_of_gt (above k b e), Nat.le_trans lo (Nat.le_of_lt (above k b e))⟩
    · exact name_of_addr C.apart (mem_of_lookup h1) (mem_of_lookup h2)
    · rcases List.mem_append.mp hx with hx | hx
      · obtain ⟨v, hv, rv⟩ := r.mem_zip ps x dx hx
        have hxp := (List.of_mem_zip hx).1
        refine ⟨v, ?_, rv.move grow⟩
        have hnd : ((ps.zip vs).map (·.1)).Nodup := by rw [zip_fst _ _ hvl]; exact D₀.nodup
        rcases D₀.own x hxp with q | q
        · exact .inl ⟨F.kind q, _, C.toInCall.ns, bindL_at _ _ _ _ hnd hv (F.kind q)⟩
        · obtain ⟨b, hb⟩ := Option.isSome_iff_exists.mp (F.cells x q)
          refine .inr (.inl ⟨F.kind q, b, hb, ?_⟩)
          have := C.cell x b hb
          rwa [bindC_at _ _ _ _ hnd hv (by rw [F.kind q]; decide)] at this
      · obtain ⟨p, hp, e⟩ := List.mem_map.mp hx
        cases e
        exact ⟨p.2, .inr (.inr ⟨F.kind (hG p hp).1, (hG p hp).2⟩), .glob _⟩
  refine wpAny_mono (h env F hcd (A.deeper env) s₁ X' ⟨t.room.deeper, t.ok.ext0 e1, x', E⟩ (fun b q => .inl (zx b q)) (z.ext0 inv e1)) (fun f s₂ q => ?_) fun _ _ f => f.elim
  obtain ⟨e2, i2, r', rfl, v, rfl, rv⟩ := q
  have hM : ∀ b, b < s.heap.objs.size → Loc env b → False := fun b hb q => by
    rcases q with rfl | ⟨_, k, e'⟩
    · rw [e_loc] at hb; exact Nat.lt_irrefl _ hb
    · exact Nat.lt_asymm hb (above k b e')
  refine ⟨⟨fun b o nb e => e2.keep b o (fun q => q.elim (fun q => hM b (Heap.lt_size e) q) nb) (e1.all b o e), Nat.le_trans e1.size e2.size, e2.os.trans e1.os, fun g => e2.gens (e1.gens g)⟩, i2, rv.move fun b o nb e => ⟨e, fun q => nb (.inl q)⟩⟩
theorem FnJ.of {a : Addr} {qual : Str} {body : List Stmt} {NM : List (Str × NameKind)} {ps : List Str} {ds : List D} {d : D} (D₀ : DefAt c a qual body NM ps) (GG : List (Str × Value))
    (hG : ∀ p ∈ GG, NM.lookup p.1 = some .globalImplicit ∧ Gl c p.1 p.2) (hl : ds.length = ps.length)
    (h : ∀ env, Fenv env NM NM → ExJ c env n (ps.zip ds ++ GG.map fun p => (p.1, D.glob p.2)) body (· = .ret d)) : FnJ c (.ref a) (n + 1) ds d := fun A s X vs t r =>
  wpAny_mono (FnZ.of (z := Zt.nil c) D₀ GG hG hl (fun env F _ => ExZ.of (h env F)) A s X vs t (fun _ q => q.elim) trivial r) (fun v s₁ q => ⟨q.1.mono fun _ _ q => q.elim, q.2.2⟩) fun _ _ f => f
end
end Mine
namespace Mine

/-! zip over two tuples of two -/
section
variable {c : Wd} {A : Around} {s : Shared}
theorem step_tup {it t : Addr} {i : Nat} {items : Array Value} {x : Value} {E : Value → Shared → Prop} {Q : Value → Shared → Prop} (hit : IsTupIter s.heap it t i) (ht : IsTup s.heap t items) (hx : items[i]? = some x)
    (hQ : ∀ h', IsTupIter h' it t (i + 1) → Heap.SameBut it s.heap h' → Q x { s with heap := h' }) : wpAny (model c.prog c.w) A (Builtin.SmallTypes.nextOf (.ref it)) Q E s := by
  have hT := hit.typeIs
  obtain ⟨o, ho, hc, hd⟩ := hit
  obtain ⟨ol, hol, _, nl, hdl⟩ := ht
  refine wpAny_bind (wpAny_callSpecial?_slot (name := Str.ofString "__next__") hT slot_tupleiter_next (wpAny_call_entry slot_tupleiter_next hT entry_tupleiter_next ?_ (args_tupleiter_next _)))
  show wpAny _ _ (field (.ref it) 0 >>= _) _ _ s
  refine wpAny_bind (wpAny_field ho hd (x := .ref t) rfl ?_)
  show wpAny _ _ (if (Value.ref t == Value.none) = true then _ else _) _ _ s
  rw [if_neg (show ¬ ((Value.ref t == Value.none) = true) from Bool.false_ne_true)]
  refine wpAny_bind (wpAny_field ho hd (x := .int i 0) rfl ?_)
  refine wpAny_bind (wpAny_seqItems hol hdl ?_)
  simp only [Int.toNat_natCast, hx]
  refine wpAny_bind (wpAny_setField ho hd (by simp) (wpAny_pure ⟨x, rfl, wpAny_pure (hQ _ ⟨_, Heap.get?_update_self _ ho (Obj.isFreed_of_fields (Obj.data_mapFields hd _)), (Obj.cls_mapFields ..).trans hc, ?_⟩ (Heap.SameBut.update ..))⟩))
  rw [Obj.data_mapFields hd]; simp [rawInt]
theorem stop_tup {it t : Addr} {i : Nat} {items : Array Value} {E : Value → Shared → Prop} {Q : Value → Shared → Prop} (hh : A.handled = none) (hit : IsTupIter s.heap it t i) (ht : IsTup s.heap t items) (hx : items[i]? = none)
    (hE : ∀ h' e, Heap.ExtBut it s.heap h' → (∃ o, h'.get? e = some o ∧ o.cls = .type "StopIteration") → E (.ref e) { s with heap := h' }) : wpAny (model c.prog c.w) A (Builtin.SmallTypes.nextOf (.ref it)) Q E s := by
  have hT := hit.typeIs
  obtain ⟨o, ho, hc, hd⟩ := hit
  obtain ⟨ol, hol, _, nl, hdl⟩ := ht
  refine wpAny_bind (wpAny_callSpecial?_slot (name := Str.ofString "__next__") hT slot_tupleiter_next (wpAny_call_entry slot_tupleiter_next hT entry_tupleiter_next ?_ (args_tupleiter_next _)))
  show wpAny _ _ (field (.ref it) 0 >>= _) _ _ s
  refine wpAny_bind (wpAny_field ho hd (x := .ref t) rfl ?_)
  show wpAny _ _ (if (Value.ref t == Value.none) = true then _ else _) _ _ s
  rw [if_neg (show ¬ ((Value.ref t == Value.none) = true) from Bool.false_ne_true)]
  refine wpAny_bind (wpAny_field ho hd (x := .int i 0) rfl ?_)
  refine wpAny_bind (wpAny_seqItems hol hdl ?_)
  simp only [Int.toNat_natCast, hx]
  refine wpAny_bind (wpAny_rule (wpAny_bind (wpAny_setField ho hd (by simp) ?_)))
  show wpAny _ _ (newExc (.type "StopIteration") [] >>= _) _ _ _
  refine wpAny_bind ?_
  simp only [newExc, newTuple]
  refine wpAny_bind (wpAny_newObj_type ?_ (by size_fits))
  refine wpAny_bind (m := firstArgMember _ _) (wpAny_of_eq (a := Value.none) (by first | rfl | (simp only [firstArgMember]; rfl)) ?_)
  refine wpAny_newObj_type ?_ (by size_fits)
  simp only [raiseNew]
  refine wpAny_bind (wpAny_handled ?_)
  first | rw [show A.in1.handled = none from hh] | rw [hh]
  refine wpAny_bind (wpAny_pure (wpAny_throw ?_))
  exact hE _ _ (((Heap.SameBut.update ..).extBut.push _).push _) ⟨_, Heap.get?_push_size _ rfl, rfl⟩

/-- a zip over two tuples, `i` turns done -/
structure ZT (h : Heap) (z TI TO i1 i2 l1 l2 : Addr) (xs ys : Array Value) (i : Nat) (f0 : Value) : Prop where
  z : IsZip h z TI TO f0
  ti : IsPair h TI (.ref i1) (.ref i2)
  to : ∃ a b, IsPair h TO a b
  h1 : IsTupIter h i1 l1 i
  h2 : IsTupIter h i2 l2 i
  l1 : IsTup h l1 xs
  l2 : IsTup h l2 ys
theorem ZT.at {h h' : Heap} {z TI TO i1 i2 l1 l2 : Addr} {xs ys : Array Value} {i : Nat} {f0 : Value} (S : ZT h z TI TO i1 i2 l1 l2 xs ys i f0)
    (k : ∀ b, b = z ∨ b = TI ∨ b = TO ∨ b = i1 ∨ b = i2 ∨ b = l1 ∨ b = l2 → ∀ o, h.get? b = some o → h'.get? b = some o) : ZT h' z TI TO i1 i2 l1 l2 xs ys i f0 :=
  ⟨k _ (.inl rfl) _ S.z, k _ (.inr (.inl rfl)) _ S.ti, let ⟨a, b, e⟩ := S.to; ⟨a, b, k _ (.inr (.inr (.inl rfl))) _ e⟩,
   let ⟨o, e, r⟩ := S.h1; ⟨o, k _ (by simp) _ e, r⟩, let ⟨o, e, r⟩ := S.h2; ⟨o, k _ (by simp) _ e, r⟩, let ⟨o, e, r⟩ := S.l1; ⟨o, k _ (by simp) _ e, r⟩, let ⟨o, e, r⟩ := S.l2; ⟨o, k _ (by simp) _ e, r⟩⟩

theorem tupIter_but {h h' : Heap} {b it t : Addr} {i : Nat} (x : IsTupIter h it t i) (hs : Heap.SameBut b h h') (n : it ≠ b) : IsTupIter h' it t i := let ⟨o, e, r⟩ := x; ⟨o, (hs.2 _ n).trans e, r⟩
theorem tup_but {h h' : Heap} {b t : Addr} {xs : Array Value} (x : IsTup h t xs) (hs : Heap.SameBut b h h') (n : t ≠ b) : IsTup h' t xs := let ⟨o, e, r⟩ := x; ⟨o, (hs.2 _ n).trans e, r⟩

theorem zt_item {z TI TO i1 i2 l1 l2 : Addr} {k : Nat} {xs ys : Array Value} {x y : Value} {Q : Option Value → Shared → Prop} {E : Value → Shared → Prop} (D : ZipApart z TI TO i1 i2 l1 l2) (S : ZT s.heap z TI TO i1 i2 l1 l2 xs ys k .none)
    (hx : xs[k]? = some x) (hy : ys[k]? = some y)
    (hQ : ∀ h', ZT h' z TI TO i1 i2 l1 l2 xs ys (k + 1) (rawInt s.heap.objs.size) → IsPair h' s.heap.objs.size x y → h'.objs.size = s.heap.objs.size + 1 →
      (∀ c o, c ≠ z → c ≠ TO → c ≠ i1 → c ≠ i2 → s.heap.get? c = some o → h'.get? c = some o) → Q (some (.ref s.heap.objs.size)) { s with heap := h' }) :
    wpAny (model c.prog c.w) A (pyNext (.ref z)) Q E s := by
  have hT : s.TypeIs (.ref z) "zip" := ⟨_, S.z, rfl⟩
  obtain ⟨hz, hTI, ⟨a, b, hTO⟩, h1, h2, hl1, hl2⟩ := S
  unfold pyNext
  refine wpAny_bind (wpAny_attempt (wpAny_callSpecial?_slot (name := Str.ofString "__next__") hT F.slot_zip_next (wpAny_call_entry F.slot_zip_next hT F.entry_zip_next ?_ (F.args_zip_next_1 _))))
  show wpAny _ _ (field (.ref z) 2 >>= _) _ _ _
  refine wpAny_bind (wpAny_field hz rfl (x := .bool false) rfl ?_)
  show wpAny _ _ (field (.ref z) 3 >>= _) _ _ _
  refine wpAny_bind (wpAny_field hz rfl (x := .ref TI) rfl ?_)
  refine wpAny_bind (wpAny_seqItems hTI rfl ?_)
  show wpAny _ _ (Builtin.SmallTypes.ownedTupleIsFree (.ref z) >>= _) _ _ _
  unfold Builtin.SmallTypes.ownedTupleIsFree
  refine wpAny_bind (wpAny_bind (wpAny_field hz rfl (x := .none) rfl (wpAny_pure ?_)))
  simp only [if_true]
  refine wpAny_bind (wpAny_rule ?_)
  refine wpAny_bind (wpAny_field hz rfl (x := .ref TO) rfl ?_)
  refine wpAny_bind (wpAny_setField_rec hz (by simp) fun g₁ hz₁ k₁ => ?_)
  replace hz₁ : IsZip g₁ z TI TO .ellipsis := hz₁
  refine wpAny_bind ?_
  simp only [List.zipIdx_cons, List.zipIdx_nil, List.forIn_cons, List.forIn_nil]
  refine wpAny_bind (wpAny_bind (wpAny_onRaise ?_))
  show wpAny _ _ (Builtin.SmallTypes.nextOf (.ref i1) >>= _) _ _ _
  refine wpAny_bind (step_tup (s := { s with heap := g₁ }) (tupIter_but h1 k₁ D.i1z) (tup_but hl1 k₁ D.l1z) hx fun g₂ q₂ k₂ => wpAny_pure ?_)
  have t₂ : IsPair g₂ TO a b := (k₂.2 _ D.TOi1).trans ((k₁.2 _ D.TOz).trans hTO)
  refine wpAny_bind (wpAny_seqItems t₂ rfl ?_)
  refine wpAny_bind (wpAny_updateSeq_pair (s := { s with heap := g₂ }) t₂ fun g₃ t₃ k₃ => ?_)
  replace t₃ : IsPair g₃ TO x b := t₃
  refine wpAny_bind (wpAny_letGo (wpAny_pure ?_))
  refine wpAny_bind (wpAny_bind (wpAny_onRaise ?_))
  show wpAny _ _ (Builtin.SmallTypes.nextOf (.ref i2) >>= _) _ _ _
  refine wpAny_bind (step_tup (s := { s with heap := g₃ }) (tupIter_but (tupIter_but (tupIter_but h2 k₁ D.i2z) k₂ D.i12.symm) k₃ D.TOi2.symm) (tup_but (tup_but (tup_but hl2 k₁ D.l2z) k₂ D.l2i1) k₃ D.l2TO) hy fun g₄ q₄ k₄ => wpAny_pure ?_)
  have t₄ : IsPair g₄ TO x b := (k₄.2 _ D.TOi2).trans t₃
  refine wpAny_bind (wpAny_seqItems t₄ rfl ?_)
  refine wpAny_bind (wpAny_updateSeq_pair (s := { s with heap := g₄ }) t₄ fun g₅ t₅ k₅ => ?_)
  replace t₅ : IsPair g₅ TO x y := t₅
  refine wpAny_bind (wpAny_letGo (wpAny_pure (wpAny_pure ?_)))
  refine wpAny_bind (wpAny_seqItems t₅ rfl ?_)
  refine wpAny_bind (wpAny_newTuple ?_)
  have sz : g₅.objs.size = s.heap.objs.size := by rw [k₅.1, k₄.1, k₃.1, k₂.1, k₁.1]
  have all : ∀ c, c ≠ z → c ≠ TO → c ≠ i1 → c ≠ i2 → g₅.get? c = s.heap.get? c := fun c c1 c2 c3 c4 => by
    rw [k₅.2 _ c2, k₄.2 _ c4, k₃.2 _ c2, k₂.2 _ c3, k₁.2 _ c1]
  have z₅ : IsZip g₅ z TI TO .ellipsis := by
    show g₅.get? z = _
    rw [k₅.2 _ D.TOz.symm, k₄.2 _ D.i2z.symm, k₃.2 _ D.TOz.symm, k₂.2 _ D.i1z.symm]; exact hz₁
  have p₁ : IsTupIter g₅ i1 l1 (k + 1) := tupIter_but (tupIter_but (tupIter_but q₂ k₃ D.TOi1.symm) k₄ D.i12) k₅ D.TOi1.symm
  have p₂ : IsTupIter g₅ i2 l2 (k + 1) := tupIter_but q₄ k₅ D.TOi2.symm
  have zlt : z < g₅.objs.size := Heap.lt_size z₅
  show wpAny _ _ (Builtin.SmallTypes.ownedTupleHandOut (.ref z) (.ref g₅.objs.size) >>= _) _ _ _
  refine wpAny_bind ?_
  unfold Builtin.SmallTypes.ownedTupleHandOut
  have z₆ : IsZip (g₅.push { cls := .type "tuple", data := .seq #[x, y] }) z TI TO .ellipsis := Heap.get?_push_of_some _ z₅
  refine wpAny_bind (wpAny_setField_rec z₆ (by simp) fun g₇ z₇ k₇ => ?_)
  replace z₇ : IsZip g₇ z TI TO (rawInt g₅.objs.size) := z₇
  refine wpAny_setField_rec (s := { s with heap := g₇ }) z₇ (by simp) fun g₈ z₈ k₈ => ?_
  replace z₈ : IsZip g₈ z TI TO (rawInt g₅.objs.size) := z₈
  have up : ∀ c o, c ≠ z → g₅.get? c = some o → g₈.get? c = some o := fun c o c1 e => ((k₈.2 _ c1).trans (k₇.2 _ c1)).trans (Heap.get?_push_of_some _ e)
  have T₈ : IsPair g₈ g₅.objs.size x y := ((k₈.2 _ (Nat.ne_of_gt zlt)).trans (k₇.2 _ (Nat.ne_of_gt zlt))).trans (Heap.get?_push_size _ rfl)
  have s₈ : g₈.objs.size = g₅.objs.size + 1 := by rw [k₈.1, k₇.1, Heap.size_push]
  rw [sz] at z₈ T₈ s₈
  refine wpAny_pure ⟨_, rfl, ?_⟩
  show wpAny _ _ (pure (some (Value.ref g₅.objs.size))) _ _ _
  rw [sz]
  refine wpAny_pure (hQ g₈ ⟨z₈, up _ _ D.TIz (by rw [all _ D.TIz D.TITO D.TIi1 D.TIi2]; exact hTI), ⟨_, _, up _ _ D.TOz t₅⟩, ?_, ?_, ?_, ?_⟩ T₈ s₈ fun c o c1 c2 c3 c4 e => up c o c1 ((all c c1 c2 c3 c4).trans e))
  · obtain ⟨o, e, r⟩ := p₁; exact ⟨o, up _ _ D.i1z e, r⟩
  · obtain ⟨o, e, r⟩ := p₂; exact ⟨o, up _ _ D.i2z e, r⟩
  · obtain ⟨o, e, r⟩ := hl1; exact ⟨o, up _ _ D.l1z ((all _ D.l1z D.l1TO D.l1i1 D.l1i2).trans e), r⟩
  · obtain ⟨o, e, r⟩ := hl2; exact ⟨o, up _ _ D.l2z ((all _ D.l2z D.l2TO D.l2i1 D.l2i2).trans e), r⟩

theorem zt_end {z TI TO i1 i2 l1 l2 : Addr} {k : Nat} {xs ys : Array Value} {Q : Option Value → Shared → Prop} {E : Value → Shared → Prop} (hh : A.handled = none) (D : ZipApart z TI TO i1 i2 l1 l2) (S : ZT s.heap z TI TO i1 i2 l1 l2 xs ys k .none)
    (hx : xs[k]? = none) (hQ : ∀ h', (∀ c o, c ≠ z → c ≠ TO → c ≠ i1 → c ≠ i2 → s.heap.get? c = some o → h'.get? c = some o) → Q none { s with heap := h' }) :
    wpAny (model c.prog c.w) A (pyNext (.ref z)) Q E s := by
  have hT : s.TypeIs (.ref z) "zip" := ⟨_, S.z, rfl⟩
  obtain ⟨hz, hTI, ⟨a, b, hTO⟩, h1, h2, hl1, hl2⟩ := S
  unfold pyNext
  refine wpAny_bind (wpAny_attempt (wpAny_callSpecial?_slot (name := Str.ofString "__next__") hT F.slot_zip_next (wpAny_call_entry F.slot_zip_next hT F.entry_zip_next ?_ (F.args_zip_next_1 _))))
  show wpAny _ _ (field (.ref z) 2 >>= _) _ _ _
  refine wpAny_bind (wpAny_field hz rfl (x := .bool false) rfl ?_)
  show wpAny _ _ (field (.ref z) 3 >>= _) _ _ _
  refine wpAny_bind (wpAny_field hz rfl (x := .ref TI) rfl ?_)
  refine wpAny_bind (wpAny_seqItems hTI rfl ?_)
  show wpAny _ _ (Builtin.SmallTypes.ownedTupleIsFree (.ref z) >>= _) _ _ _
  unfold Builtin.SmallTypes.ownedTupleIsFree
  refine wpAny_bind (wpAny_bind (wpAny_field hz rfl (x := .none) rfl (wpAny_pure ?_)))
  simp only [if_true]
  refine wpAny_bind (wpAny_rule ?_)
  refine wpAny_bind (wpAny_field hz rfl (x := .ref TO) rfl ?_)
  refine wpAny_bind (wpAny_setField_rec hz (by simp) fun g₁ hz₁ k₁ => ?_)
  replace hz₁ : IsZip g₁ z TI TO .ellipsis := hz₁
  refine wpAny_bind ?_
  simp only [List.zipIdx_cons, List.zipIdx_nil, List.forIn_cons, List.forIn_nil]
  refine wpAny_bind (wpAny_bind (wpAny_onRaise ?_))
  show wpAny _ _ (Builtin.SmallTypes.nextOf (.ref i1) >>= _) _ _ _
  refine wpAny_bind (stop_tup (s := { s with heap := g₁ }) hh (tupIter_but h1 k₁ D.i1z) (tup_but hl1 k₁ D.l1z) hx fun g₂ e k₂ he => ?_)
  obtain ⟨oe, hoe, hce⟩ := he
  have hz₂ : IsZip g₂ z TI TO .ellipsis := k₂ _ _ D.i1z.symm hz₁
  have hez : e ≠ z := fun x => by subst x; rw [hz₂] at hoe; cases hoe; simp at hce
  refine wpAny_setField_rec (s := { s with heap := g₂ }) hz₂ (by simp) fun g₃ _ k₃ => ?_
  refine wpAny_bind (wpAny_isInstance (T := "StopIteration") (b := true) ⟨oe, (k₃.2 _ hez).trans hoe, hce⟩ isSubtype_stop ?_)
  exact wpAny_pure (hQ _ fun c o c1 _ c3 _ x => (k₃.2 _ c1).trans (k₂ _ _ c3 ((k₁.2 _ c1).trans x)))
end
end Mine
namespace Mine

noncomputable abbrev tz1 (h : Heap) (l1 : Addr) : Heap := h.push { cls := .type "tuple_iterator", data := .fields #[.ref l1, .int 0 0] }
noncomputable abbrev tz2 (h : Heap) (l1 l2 : Addr) : Heap := (tz1 h l1).push { cls := .type "tuple_iterator", data := .fields #[.ref l2, .int 0 0] }
noncomputable abbrev tz3 (h : Heap) (l1 l2 : Addr) : Heap := (tz2 h l1 l2).push { cls := .type "tuple", data := .seq #[.ref h.objs.size, .ref (tz1 h l1).objs.size] }
noncomputable abbrev tz4 (h : Heap) (l1 l2 : Addr) : Heap := (tz3 h l1 l2).push { cls := .type "tuple", data := .seq #[.none, .none] }
noncomputable abbrev tz5 (h : Heap) (l1 l2 : Addr) : Heap := (tz4 h l1 l2).push { cls := .type "zip", data := .fields #[.none, .bool false, .bool false, .ref (tz2 h l1 l2).objs.size, .ref (tz3 h l1 l2).objs.size] }

theorem meets_zip_tup (l1 l2 : Addr) (xs ys : Array Value) :
    Meets (Builtin.«zip.__new__» ⟨[.type "zip", .ref l1, .ref l2], []⟩) (fun _ R s => IsTup s.heap l1 xs ∧ IsTup s.heap l2 ys ∧
      R (.ok (.ret (.ref (tz4 s.heap l1 l2).objs.size))) { s with heap := tz5 s.heap l1 l2 }) :=
  .of_wp fun prog w A R s h => by
    obtain ⟨hp, g, d, tk, os⟩ := s; obtain ⟨hl1, hl2, h⟩ := h
    have hsub := sub_zip
    have hL1 : IsTup (Shared.heap ⟨hp, g, d, tk, os⟩) l1 xs := hl1
    have hL2 : IsTup (Shared.heap ⟨hp.push { cls := .type "tuple_iterator", data := .fields #[.ref l1, .int 0 0] }, g, d, tk, os⟩) l2 ys := let ⟨o, e, r⟩ := hl2; ⟨o, Heap.get?_push_of_some _ e, r⟩
    wp_walk using iter_tuple hL1, iter_tuple hL2
    exact ⟨_, rfl, h⟩

section
variable {c : Wd} {A : Around} {s : Shared}
theorem call_zip_tup {l1 l2 : Addr} {xs ys : Array Value} {E : Value → Shared → Prop} {Q : Value → Shared → Prop} (hl1 : IsTup s.heap l1 xs) (hl2 : IsTup s.heap l2 ys)
    (h : ∀ h', ZT h' (s.heap.objs.size + 4) (s.heap.objs.size + 2) (s.heap.objs.size + 3) s.heap.objs.size (s.heap.objs.size + 1) l1 l2 xs ys 0 .none → h'.objs.size = s.heap.objs.size + 5 →
      (∀ c o, s.heap.get? c = some o → h'.get? c = some o) → Q (.ref (s.heap.objs.size + 4)) { s with heap := h' }) :
    wpAny (model c.prog c.w) A (call (.type "zip") [.ref l1, .ref l2]) Q E s := by
  refine callType_new F.called_zip (by decide) (F.typeCall_zip_2 _ _) (F.newCall_zip_2 _ _) (fun obj => F.args_object_init_3 obj _ _) F.entry_zip_new (meets_zip_tup l1 l2 xs ys) ⟨hl1, hl2, ?_⟩
  have z1 : (tz1 s.heap l1).objs.size = s.heap.objs.size + 1 := Heap.size_push ..
  have z2 : (tz2 s.heap l1 l2).objs.size = s.heap.objs.size + 2 := by rw [Heap.size_push, z1]
  have z3 : (tz3 s.heap l1 l2).objs.size = s.heap.objs.size + 3 := by rw [Heap.size_push, z2]
  have z4 : (tz4 s.heap l1 l2).objs.size = s.heap.objs.size + 4 := by rw [Heap.size_push, z3]
  have z5 : (tz5 s.heap l1 l2).objs.size = s.heap.objs.size + 5 := by rw [Heap.size_push, z4]
  have g5 : (tz5 s.heap l1 l2).get? (tz4 s.heap l1 l2).objs.size = some _ := Heap.get?_push_size _ rfl
  have g4 : (tz5 s.heap l1 l2).get? (tz3 s.heap l1 l2).objs.size = some _ := Heap.get?_push_of_some _ (Heap.get?_push_size _ rfl)
  have g3 : (tz5 s.heap l1 l2).get? (tz2 s.heap l1 l2).objs.size = some _ := Heap.get?_push_of_some _ (Heap.get?_push_of_some _ (Heap.get?_push_size _ rfl))
  have g2 : (tz5 s.heap l1 l2).get? (tz1 s.heap l1).objs.size = some _ := Heap.get?_push_of_some _ (Heap.get?_push_of_some _ (Heap.get?_push_of_some _ (Heap.get?_push_size _ rfl)))
  have g1 : (tz5 s.heap l1 l2).get? s.heap.objs.size = some _ := Heap.get?_push_of_some _ (Heap.get?_push_of_some _ (Heap.get?_push_of_some _ (Heap.get?_push_of_some _ (Heap.get?_push_size _ rfl))))
  have up : ∀ c o, s.heap.get? c = some o → (tz5 s.heap l1 l2).get? c = some o := fun c o x => Heap.get?_push_of_some _ (Heap.get?_push_of_some _ (Heap.get?_push_of_some _ (Heap.get?_push_of_some _ (Heap.get?_push_of_some _ x))))
  show _ ∧ _
  rw [z2, z3, z4] at g5
  rw [z1, z2] at g3
  rw [z3] at g4
  rw [z1] at g2
  rw [z4]
  exact ⟨⟨_, g5, rfl⟩, h _ ⟨g5, g3, ⟨_, _, g4⟩, ⟨_, g1, rfl, rfl⟩, ⟨_, g2, rfl, rfl⟩, let ⟨o, e, r⟩ := hl1; ⟨o, up _ _ e, r⟩, let ⟨o, e, r⟩ := hl2; ⟨o, up _ _ e, r⟩⟩ z5 up⟩

theorem go_zip {elts : List Expr} {x1 : Nat} {pos : Pos} {z TI TO i1 i2 l1 l2 T : Addr} {xs ys : Array Value} {k : Nat} {E : Value → Shared → Prop} {Q : Unit → Shared → Prop} (D : ZipApart z TI TO i1 i2 l1 l2) (S : ZT s.heap z TI TO i1 i2 l1 l2 xs ys k (rawInt T))
    (hQ : ∀ h', ZT h' z TI TO i1 i2 l1 l2 xs ys k .none → Heap.SameBut z s.heap h' → Q () { s with heap := h' }) :
    wpAny (model c.prog c.w) A (letOwnedTupleGo (.Tuple elts x1 pos) (.ref z) (.ref T)) Q E s := by
  refine wpAny_letOwnedTupleGo_zip S.z fun h' hz hs => hQ h' ⟨hz, (hs.2 _ D.TIz).trans S.ti, let ⟨a, b, e⟩ := S.to; ⟨a, b, (hs.2 _ D.TOz).trans e⟩, tupIter_but S.h1 hs D.i1z, tupIter_but S.h2 hs D.i2z, tup_but S.l1 hs D.l1z, tup_but S.l2 hs D.l2z⟩ hs

/-- a zip over two tuples, walked -/
theorem walk_zip (hh : A.handled = none) (z TI TO i1 i2 l1 l2 : Addr) (D : ZipApart z TI TO i1 i2 l1 l2) (xs ys : Array Value) (hl : xs.size = ys.size) :
    WalksU c.prog c.w A z [z, TI, TO, i1, i2, l1, l2] [z, TO, i1, i2] xs.size (fun i vals => ∃ x y, xs[i]? = some x ∧ ys[i]? = some y ∧ vals = #[x, y])
      (fun i h => ZT h z TI TO i1 i2 l1 l2 xs ys i .none)
      (fun i T h => ZT h z TI TO i1 i2 l1 l2 xs ys (i + 1) (rawInt T) ∧ T ≠ z ∧ T ≠ TO ∧ T ≠ i1 ∧ T ≠ i2) where
  sub := fun b hb => by simp at hb ⊢; rcases hb with rfl | rfl | rfl | rfl <;> simp
  frame := fun i h h' S k => S.at fun b hb o e => k b (by simp; exact hb) o e
  item := fun i s Q E hi S hQ => by
    have hx : xs[i]? = some xs[i] := Array.getElem?_eq_getElem hi
    have hy : ys[i]? = some (ys[i]'(hl ▸ hi)) := Array.getElem?_eq_getElem (hl ▸ hi)
    refine zt_item D S hx hy fun h' S' hT hz hk => ?_
    have lt : ∀ {c o}, s.heap.get? c = some o → s.heap.objs.size ≠ c := fun e => Nat.ne_of_gt (Heap.lt_size e)
    refine hQ _ _ _ s.toks ⟨_, _, hx, hy, rfl⟩ ⟨_, hT, rfl, _, rfl⟩ ⟨S', lt S.z, let ⟨a, b, e⟩ := S.to; lt e, let ⟨o, e, _⟩ := S.h1; lt e, let ⟨o, e, _⟩ := S.h2; lt e⟩ fun b o hb e => ?_
    simp at hb
    exact hk b o hb.1 hb.2.1 hb.2.2.1 hb.2.2.2 e
  go := fun elts k pos i T s Q E M hQ => go_zip D M.1 fun h' S' hs => hQ h' S' fun b o hb e => (hs.2 _ (by simp at hb; exact hb.1)).trans e
  apart := fun i T h M => by simp; exact M.2
  done := fun s Q E S hQ => zt_end hh D S (by simp) fun h' hk => hQ h' s.toks fun b o hb e => by
    simp at hb
    exact hk b o hb.1 hb.2.1 hb.2.2.1 hb.2.2.2 e
  self := fun i s Q E S h => wpAny_pyIter_zip S.z h
end
end Mine
namespace Mine

theorem code_at {h h' : Heap} {cc P : Addr} {ps : Array Value} (k : ∀ o, h.get? cc = some o → h'.get? cc = some o) (l : ∀ o, h.get? P = some o → h'.get? P = some o) (i : h.IsCode cc P ps) : h'.IsCode cc P ps := by
  obtain ⟨o, vs, file, tf, flags, tg, inF, text, tt, op, a, r1, r2, r3, r4, r5, r6, b, r⟩ := i
  exact ⟨o, vs, file, tf, flags, tg, inF, text, tt, op, k _ a, r1, r2, r3, r4, r5, r6, l _ b, r⟩
theorem table_at {h h' : Heap} {cc P : Addr} {ps : Array Value} (k : ∀ o, h.get? cc = some o → h'.get? cc = some o) (l : ∀ o, h.get? P = some o → h'.get? P = some o) (i : h.TableAt cc P ps) : h'.TableAt cc P ps := by
  obtain ⟨⟨o, vs, a, q⟩, d⟩ := i
  exact ⟨⟨o, vs, k _ a, q⟩, l _ d⟩
theorem table_obj {h : Heap} {cc P : Addr} {ps : Array Value} (i : h.TableAt cc P ps) {o : Obj} (e : h.get? P = some o) : o.data = .fields ps := by
  rw [i.2] at e; exact Option.some.inj e ▸ rfl

/-- the table of code objects that a generator's making turns -/
structure Tab (c : Wd) (cc P : Addr) : Prop where
  none : c.hb.get? P = none
  ltP : P < c.hb.objs.size
  ltC : cc < c.hb.objs.size
  mod : ∃ bm ob, BMod c.hb mainGlobals c.mg bm ob
noncomputable def Tab.z {c : Wd} {cc P : Addr} (T : Tab c cc P) : Zt c where
  Z := fun b => b = P
  Inv := fun h => ∃ ps, h.IsCode cc P ps ∧ h.TableAt cc P ps
  none := fun b q => q ▸ T.none
  lt := fun b q => q ▸ T.ltP
  keep := fun h h' k i => i.imp fun ps q => ⟨code_at (fun o => k _ o T.ltC) (fun o => k _ o T.ltP) q.1, table_at (fun o => k _ o T.ltC) (fun o => k _ o T.ltP) q.2⟩

section
variable {c : Wd} {env : Env} {ρ ρ' : Ro} {n : Nat} {A : Around} {X W : Addr → Prop} {s s' : Shared}

theorem genexpr_code {M : Model} {E : Value → Shared → Prop} {env : Env} {c P : Addr} {ps : Array Value} {pos : Pos} {qualname : Str} {scope : Scope} {Q : Value → Shared → Prop} (hc : env.code = .ref c) (hok : s.heap.IsCode c P ps) (htab : s.heap.TableAt c P ps)
    (hQ : ∀ code h' tk ps', Heap.ExtBut P s.heap h' → h'.IsCode c P ps' → h'.TableAt c P ps' → Q code { s with heap := h', toks := tk }) : wpAny M A (genexprCode env pos qualname scope) Q E s := by
  cases hnf : codeAmong pos ps.toList with
  | some cv => exact wpAny_genexprCode_hit hc hok hnf (hQ cv s.heap s.toks ps (Heap.ExtBut.refl _ _) hok htab)
  | none => exact wpAny_genexprCodeX hc hok htab hnf fun c' h' tk k _ _ i _ t _ => hQ _ h' tk _ k i t

theorem seq_ne {xs ps : Array Value} {n : Nat} {p : Prop} (h : Data.seq xs n = .fields ps) : p := nomatch h
@[elab_as_elim] theorem tup_two {h : Heap} {P : Value → Prop} {v : Value} {a1 a2 : Int} (r : Rep c.prog c.w X h v (.tup [.int a1, .int a2]))
    (k : ∀ l n t1 t2, h.get? l = some { cls := .type "tuple", data := .seq #[.int a1 t1, .int a2 t2] n } → P (.ref l)) : P v := by
  refine r.el fun l vs n ha _ rl => ?_
  revert ha
  refine rl.e2 fun u w r1 r2 => ?_
  refine r1.el fun t1 => ?_
  refine r2.el fun t2 => ?_
  exact k l n t1 t2
theorem zip_apart {S l1 l2 : Nat} (h1 : l1 < S) (h2 : l2 < S) : ZipApart (S + 4) (S + 2) (S + 3) S (S + 1) l1 l2 := by
  constructor <;> first | exact Nat.ne_of_gt (by omega) | exact Nat.ne_of_lt (by omega)
theorem zip_lt {S z l1 l2 b : Nat} (h1 : l1 < S) (h2 : l2 < S) (hz : S + 5 ≤ z) (hb : b ∈ [S + 4, S + 2, S + 3, S, S + 1, l1, l2]) : b < z := by
  simp only [List.mem_cons, List.not_mem_nil, or_false] at hb; omega
theorem zip_new {S b : Nat} (hb : b ∈ [S + 4, S + 3, S, S + 1]) : S ≤ b := by
  simp only [List.mem_cons, List.not_mem_nil, or_false] at hb; omega
theorem zip_wr {S z b : Nat} (hz : S + 5 ≤ z) (hb : b < S) : b ∉ z :: [S + 4, S + 3, S, S + 1] := by
  simp only [List.mem_cons, List.not_mem_nil, or_false]; omega
theorem zip_neP {S P l1 l2 : Nat} (h : P < S) (h1 : l1 ≠ P) (h2 : l2 ≠ P) : ∀ b, b = S + 4 ∨ b = S + 2 ∨ b = S + 3 ∨ b = S ∨ b = S + 1 ∨ b = l1 ∨ b = l2 → b ≠ P := by
  intro b q e; omega
theorem gen_lt {a z m b : Nat} (ha : z < a) (hm : m = a + 1) (hb : b ∈ a :: z :: List.range z) : b < m := by
  simp only [List.mem_cons, List.mem_range] at hb; omega
theorem size_up {S z a m k : Nat} (h1 : S + 5 ≤ z) (h2 : z < a) (h3 : m = a + 1) (h4 : m ≤ k + 1) : S ≤ k := by omega
/-- the sums of the pairs that a zip hands out -/
theorem sum_quiet {cenv : Env} {xa xb : Str} {p1 p2 bp : Pos} {fp wr : List Addr} {a1 a2 b1 b2 : Int} {t1 t2 t3 t4 : Tok} {href : Heap} {D U : Nat} (hfun : cenv.scope.kind = .function)
    (hxa : cenv.scope.names.lookup xa = some .local) (hxb : cenv.scope.names.lookup xb = some .local) (hda : (xa == ("__debug__" : Str)) = false) (hdb : (xb == ("__debug__" : Str)) = false) :
    QuietGenTD c.prog c.w cenv xa xb [] (.BinOp (.Name xa p1) .Add (.Name xb p2) bp) fp wr (fun i vals => ∃ x y, (#[.int a1 t1, .int a2 t2] : Array Value)[i]? = some x ∧ (#[.int b1 t3, .int b2 t4] : Array Value)[i]? = some y ∧ vals = #[x, y])
      (fun _ => true) (fun i v => ∃ tk, v = .int (([a1 + b1, a2 + b2] : List Int).getD i 0) tk) href D U := by
  refine ⟨fun A' E' i va vb s₂ m₂ _ _ _ _ _ _ _ _ => ?_, fun A' E' i va vb s₂ m₂ _ _ _ hP _ hn ha hb _ => ?_⟩
  · simp only [List.forIn_nil]
    exact wpAny_pure ⟨rfl, s₂.heap, s₂.toks, rfl, fun _ _ e => e⟩
  · have key : ∀ {j k l : Int} {t u : Tok}, j + k = l → wpAny (model c.prog c.w) A' (binaryOp .Add (.int j t) (.int k u)) (fun v s' => (∃ tk, v = .int l tk) ∧ Keeps s₂ s') E' s₂ := fun e =>
      PyProof.Rows.add_int ⟨⟨_, by rw [e]⟩, s₂.heap, s₂.toks + 1, rfl, fun _ _ e => e⟩
    refine wpAny_BinOp (wpAny_Name (wpAny_loadName_local hfun hxa hn ha (wpAny_Name (wpAny_loadName_local hfun hxb hn hb ?_) hdb)) hda)
    obtain ⟨x, y, hx, hy, e⟩ := hP
    have e1 : va = x := congrArg (fun a : Array Value => a.getD 0 .none) e
    have e2 : vb = y := congrArg (fun a : Array Value => a.getD 1 .none) e
    rw [e1, e2]
    match i, hx, hy with
    | 0, hx, hy => rw [← Option.some.inj hx, ← Option.some.inj hy]; exact key rfl
    | 1, hx, hy => rw [← Option.some.inj hx, ← Option.some.inj hy]; exact key rfl
    | i + 2, hx, hy => simp at hx
/-- the two sums, gathered -/
theorem sum_items {acc : Array Value} {k0 k1 : Int} (h : ItemsOf (fun j y => ∃ i, [0, 1][j]? = some i ∧ ∃ tk, y = Value.int (([k0, k1] : List Int).getD i 0) tk) acc 2) : ∃ t0 t1, acc = ([.int k0 t0, .int k1 t1] : List Value).toArray := by
  obtain ⟨l⟩ := acc
  match l, h with
  | [u, v], h =>
    obtain ⟨i, hi, t0, e0⟩ := h.2 0 u rfl
    obtain ⟨j, hj, t1, e1⟩ := h.2 1 v rfl
    exact ⟨t0, t1, by rw [e0, e1, ← Option.some.inj hi, ← Option.some.inj hj]; rfl⟩
  | [], h => exact absurd h.1 (by decide)
  | [_], h => exact absurd (show 1 = 2 from h.1) (by decide)
  | _ :: _ :: _ :: l, h => exact absurd (show l.length + 3 = 2 from h.1) (by omega)

/-- the end: the tuple of the two sums stands -/
theorem sum_end {cc P : Addr} (T : Tab c cc P) {s s₄ s' : Shared} {h6 : Heap} {S : Nat} {ps6 : Array Value} {acc : Array Value} {k0 k1 : Int} (t : St c env ρ n A X s) (eA : Ext No s s₄) (hS : s₄.heap.objs.size = S) (hPlt : @LT.lt Nat _ P S) (hb4 : c.hb.objs.size ≤ S)
    (keep : ∀ b o, @LT.lt Nat _ b S → b ≠ P → s₄.heap.get? b = some o → s'.heap.get? b = some o) (k6 : ∀ b o, @LT.lt Nat _ b S → h6.get? b = some o → s'.heap.get? b = some o) (hps : h6.IsCode cc P ps6) (hpt : h6.TableAt cc P ps6) (hs : S ≤ s'.heap.objs.size) (hos : s'.os = s₄.os)
    (hg : AllBare s₄.gens → AllBare s'.gens) (hacc : ∃ t0 t1, acc = ([.int k0 t0, .int k1 t1] : List Value).toArray) :
    Ext T.z.Z s { s' with heap := s'.heap.push { cls := .type "tuple", data := .seq acc } } ∧ T.z.Inv (s'.heap.push { cls := .type "tuple", data := .seq acc }) ∧ Rep c.prog c.w X (s'.heap.push { cls := .type "tuple", data := .seq acc }) (.ref s'.heap.objs.size) (.tup [.int k0, .int k1]) := by
  subst hS
  have e : Ext T.z.Z s s' := ⟨fun b o nb e => keep b o (Nat.lt_of_lt_of_le (Heap.lt_size e) eA.size) nb (eA.all _ _ e), Nat.le_trans eA.size hs, hos.trans eA.os, fun g => hg (eA.gens g)⟩
  refine ⟨e.trans (.push ..), ⟨ps6, (code_at (k6 cc · (Nat.lt_of_lt_of_le T.ltC hb4)) (k6 P · hPlt) hps).push _, (table_at (k6 cc · (Nat.lt_of_lt_of_le T.ltC hb4)) (k6 P · hPlt) hpt).push _⟩, ?_⟩
  obtain ⟨t0, t1, rfl⟩ := hacc
  exact .tup (n := 0) (vs := [.int k0 t0, .int k1 t1]) (Heap.get?_push_size _ rfl) (fun q => Nat.lt_irrefl _ (Nat.lt_of_lt_of_le (t.x _ q) (Nat.le_trans eA.size hs))) (.cons (.int ..) (.cons (.int ..) .nil))

theorem ev_tuple_gen {cc P : Addr} (T : Tab c cc P) {ft fz xa xb : Str} {e1 e2 : Expr} {a1 a2 b1 b2 : Int} {tp zp pa pb pt p1 p2 bp gp zpos pos : Pos} {kt : Nat} {scope : Scope}
    (hcode : env.code = .ref cc) (hft : (ft, D.glob (.type "tuple")) ∈ ρ) (hfz : (fz, D.glob (.type "zip")) ∈ ρ) (h₁ : EvJ c env n ρ e1 (.tup [.int a1, .int a2])) (h₂ : EvJ c env n ρ e2 (.tup [.int b1, .int b2]))
    (hco : scope.isCoroutine = false) (hclos : closureFor scope env = pure []) (hcell : ∀ y ∈ scope.names, y.2 ≠ .cell) (h0 : scope.names.lookup (".0" : Str) = some NameKind.local)
    (hxa : scope.names.lookup xa = some .local) (hxb : scope.names.lookup xb = some .local) (hab : xa ≠ xb) (hkind : scope.kind = .function)
    (hda : (xa == ("__debug__" : Str)) = false) (hdb : (xb == ("__debug__" : Str)) = false)
    (he : starEach [.GeneratorExp (.BinOp (.Name xa p1) .Add (.Name xb p2) bp) [⟨.Tuple [.Name xa pa, .Name xb pb] kt pt, .Call (.Name fz zp) [e1, e2] [] zpos, [], 0⟩] scope gp] env = (false, eval (.GeneratorExp (.BinOp (.Name xa p1) .Add (.Name xb p2) bp) [⟨.Tuple [.Name xa pa, .Name xb pb] kt pt, .Call (.Name fz zp) [e1, e2] [] zpos, [], 0⟩] scope gp) env) :: starEach [] env := by rfl)
    (hz1 : starEach [e1, e2] env = (false, eval e1 env) :: starEach [e2] env := by rfl) (hz2 : starEach [e2] env = (false, eval e2 env) :: starEach [] env := by rfl) (hpl : (backTo zpos (starEach [e2] env)).any (·.1) = false := by rfl)
    (hnt : (ft == ("__debug__" : Str)) = false := by decide) (hnz : (fz == ("__debug__" : Str)) = false := by decide) :
    EvZ c T.z env n ρ (.Call (.Name ft tp) [.GeneratorExp (.BinOp (.Name xa p1) .Add (.Name xb p2) bp) [⟨.Tuple [.Name xa pa, .Name xb pb] kt pt, .Call (.Name fz zp) [e1, e2] [] zpos, [], 0⟩] scope gp] [] pos) (.tup [.int (a1 + b1), .int (a2 + b2)]) := fun A s X t zx inv => by
  refine PyProof.Rows.Call_ (wpAny_mono (EvJ.name hft hnt A s X t) (fun v s₁ q₁ => ?_) fun _ _ f => f.elim) (by rfl)
  refine q₁.2.eg ?_
  refine PyProof.Rows.callWith_type1 ?_ he
  refine wpAny_items_cons (wpAny_GeneratorExp_walksQTD (A := A) t.room.h hco hclos hcell h0 hxa hxb hab hkind t.room.depth ?_ (by intro _; rfl)) he
  have t₁ := t.ext q₁.1
  refine PyProof.Rows.Call_ (wpAny_mono (EvJ.name hfz hnz A s₁ X t₁) (fun v s₂ q₂ => ?_) fun _ _ f => f.elim) (by rfl)
  refine q₂.2.eg ?_
  have t₂ := t₁.ext q₂.1
  refine PyProof.Rows.callWith_type1 ?_ hz1 hpl
  refine wpAny_items_cons (wpAny_mono (h₁ A s₂ X t₂) (fun v s₃ q₃ => ?_) fun _ _ f => f.elim) hz1
  have t₃ := t₂.ext q₃.1
  refine wpAny_items_cons (wpAny_mono (h₂ A s₃ X t₃) (fun u s₄ q₄ => wpAny_items_nil ?_) fun _ _ f => f.elim) hz2
  have t₄ := t₃.ext q₄.1
  have eA : Ext No s s₄ := ((q₁.1.trans q₂.1).trans q₃.1).trans q₄.1
  have hb4 : c.hb.objs.size ≤ s₄.heap.objs.size := t₄.ok.size
  have hPlt : @LT.lt Nat _ P s₄.heap.objs.size := Nat.lt_of_lt_of_le T.ltP hb4
  have iA : T.z.Inv s₄.heap := T.z.ext0 inv eA
  have nt : ∀ {l n xs}, s₄.heap.get? l = some { cls := .type "tuple", data := .seq xs n } → l ≠ P := fun e q => by
    obtain ⟨ps, _, p⟩ := iA
    exact seq_ne (table_obj p (q ▸ e))
  refine tup_two (q₃.2.ext0 q₄.1) fun l1 _ tk1 tk2 ha1 => ?_
  refine tup_two q₄.2 fun l2 _ tk3 tk4 ha2 => ?_
  have hl1 : @LT.lt Nat _ l1 s₄.heap.objs.size := Heap.lt_size ha1
  have hl2 : @LT.lt Nat _ l2 s₄.heap.objs.size := Heap.lt_size ha2
  refine call_zip_tup ⟨_, ha1, rfl, _, rfl⟩ ⟨_, ha2, rfl, _, rfl⟩ fun h5 S5 z5 k5 => ?_
  refine wpAny_pyIter_zip S5.z ⟨(c.base.nolimit.keeps t₄.ok.keep).keeps k5, ?_⟩
  have e5 : T.z.Inv h5 := T.z.keep _ _ (fun b o _ e => k5 b o e) iA
  obtain ⟨ps, hps, hpt⟩ := e5
  refine genexpr_code (s := { s₄ with heap := h5 }) hcode hps hpt fun code h6 tk6 ps6 k6 hps6 hpt6 => ?_
  obtain ⟨bm, ob, M⟩ := T.mod
  have old6 : ∀ b o, b ≠ P → s₄.heap.get? b = some o → h6.get? b = some o := fun b o nb e => k6 b o nb (k5 _ _ e)
  have nP : ∀ {b o}, c.hb.get? b = some o → b ≠ P := fun e q => by rw [q, T.none] at e; exact nomatch e
  have base6 : ∀ b o, c.hb.get? b = some o → h6.get? b = some o := fun b o e => old6 b o (nP e) (t₄.ok.keep _ _ e)
  have nl6 : h6.NoLimit := c.base.nolimit.keeps base6
  have hcs : @LT.lt Nat _ cStatics s₄.heap.objs.size := by obtain ⟨mc, hn, _⟩ := c.base.nolimit; exact Nat.lt_of_lt_of_le hn.lt hb4
  refine wpAny_builtinsFor (s := { s₄ with heap := h6, toks := tk6 }) (t.env.glob ▸ c.base.g.keeps base6) M.name M.ne (base6 _ _ M.obj) M.cls M.dict M.data ?_
  have S6 := S5.at (h' := h6) fun b hb o e => k6 b o (zip_neP hPlt (nt ha1) (nt ha2) b hb) e
  have z6 : s₄.heap.objs.size + 5 ≤ h6.objs.size := Heap.lt_size S6.z
  refine ⟨_, _, _, _, _, _, _, fun _ => true, fun i v => ∃ tk, v = .int (([a1 + b1, a2 + b2] : List Int).getD i 0) tk, rfl, fun A' hA => walk_zip hA _ _ _ _ _ _ _ (zip_apart hl1 hl2) #[.int a1 tk1, .int a2 tk2] #[.int b1 tk3, .int b2 tk4] rfl, fun i vals q => let ⟨x, y, _, _, e⟩ := q; ⟨x, y, e⟩, S6, fun b hb => zip_lt hl1 hl2 z6 hb, nl6, fun q => Nat.lt_irrefl _ (Nat.lt_of_lt_of_le hcs (zip_new q)), fun href hk => sum_quiet hkind hxa hxb hda hdb, fun a h7 tk gs hbare hCa hsz hk7 Wk G0 => ?_⟩
  refine wpAny_items_nil ?_
  refine wpAny_withsize (call_tuple_gen Wk.in4_3 (fun i u G => G.1.typeIs) G0 (fun b hb => gen_lt hCa hsz hb) (.head _) (fun s' acc hm hacc hsize => ?_) (show (2 : Nat) ≤ sizeLine by decide))
  exact sum_end (S := s₄.heap.objs.size) T t eA rfl hPlt hb4 (fun b o hb nb e => hm.heap b o (zip_wr z6 hb) (hk7 _ _ (old6 b o nb e))) (fun b o hb e => hm.heap b o (zip_wr z6 hb) (hk7 _ _ e)) hps6 hpt6
    (size_up z6 hCa hsz (by rw [← push_size]; exact hsize)) hm.os (fun g => ((g.push hbare).movedS hm : AllBare s'.gens)) (sum_items hacc)
end
end Mine
namespace Mine
section
variable {c : Wd} {z : Zt c} {env : Env} {ρ ρ' : Ro} {n : Nat} {A : Around} {X W : Addr → Prop} {s s' : Shared} {x : Str} {a : Addr} {d : D} {R R' : FlowO → Prop}

theorem StO.extZ (t : StO c z env ρ n A X x a d s) (e : Ext z.Z s s') (i : z.Inv s'.heap) : StO c z env ρ n A X x a d s' :=
  t.move (e.mono fun _ _ q => .inr q) i (t.st.env.extZ e t.zx) (t.holds.ext e t.zx fun q => Nat.lt_irrefl _ (Nat.lt_of_lt_of_le (z.lt _ q) t.lo))
theorem StO.zfree (t : StO c z env ρ n A X x a d s) : ∀ b, z.Z b → Less X a b := fun b q => ⟨t.zx b q, fun e => Nat.lt_irrefl _ (Nat.lt_of_lt_of_le (z.lt _ q) (e ▸ t.lo))⟩

theorem Ex1O.setKeyZ {kds : List (Str × D)} {k : Str} {e i : Expr} {d' : D} {p tp pos : Pos} (h : EvZ c z env n ((x, .dict kds) :: ρ) e d') (hi : Imm d') (hk : EvJ c env n ((x, .dict kds) :: ρ) i (.str k)) (hz : kds.length ≤ sizeLine) (hd : (x == ("__debug__" : Str)) = false := by decide)
    (hs : swapsWith e (some (.Subscript (.Name x p) i tp)) pos.line env = pure false := by rfl) :
    Ex1O c z env n ρ x (.dict kds) (.Assign [.Subscript (.Name x p) i tp] e pos) (· = .next ρ (.dict (putK kds k d'))) := fun A s X a t => by
  refine wpAny_Assign_Subscript (wpAny_mono (h A s _ t.free t.zfree t.inv) (fun v s₁ q => ?_) fun _ _ f => f) hs
  obtain ⟨e₁, i₁, r⟩ := q
  have t₁ := t.extZ e₁ i₁
  have rx := t₁.lock (.refl ..) hi r
  refine wpAny_mono (EvJ.name (d := .glob (.ref a)) (.head _) hd A s₁ X t₁.st) (fun o s₂ q => ?_) fun _ _ f => f
  obtain ⟨e₂, r⟩ := q
  (first | refine r.eg ?_ | refine r.eb ?_ | refine r.en ?_ | refine r.e0 ?_ | refine r.el fun _ => ?_ | cases r)
  have t₂ := t₁.ext e₂
  refine wpAny_mono (hk A s₂ _ t₂.free) (fun u s₃ q => ?_) fun _ _ f => f
  obtain ⟨e₃, r⟩ := q
  refine r.el fun tk => ?_
  have t₃ := t₂.ext e₃
  have rx := rx.ext0 (e₂.trans e₃)
  obtain ⟨kvs, ep, h1, h2, h3⟩ := t₃.holds
  refine wpAny_setItem_pairs (hsz := by rw [h3.length]; exact hz) (strKind_is _ _ k tk) h1.dictOf fun h' hm hs => ?_
  obtain ⟨ep', hm'⟩ := hm.dictAt
  have mv : ∀ b o, ¬ X b → s₃.heap.get? b = some o → h'.get? b = some o ∧ ¬ X b := fun b o nb eb => ⟨hs.extBut b o (fun q => nb (q ▸ t.xa)) eb, nb⟩
  have key := t₃.change (tk := s₃.toks + 1) (d' := .dict (putK kds k d')) hs ⟨_, ep', hm', h2, RepK.stored (rx.move mv) (h3.move mv)⟩
  exact ⟨((e₁.mono fun _ _ q => .inr q).trans (e₂.trans e₃).no).trans key.1.toZ, z.ext t₃.inv key.1 t₃.lo', _, rfl, rfl, key.2⟩
end
end Mine
namespace Mine

/-! the sort's questions, answered by a key -/
section
variable {n : Nat} {r : Nat → Nat → Bool}
noncomputable def Good {α : Type} (n : Nat) (r : Nat → Nat → Bool) : KasT α → (α → Prop) → Prop
  | .ret a, P => P a
  | .ask i j k, P => i < n ∧ j < n ∧ Good n r (k (r i j)) P
theorem Good.bind {α β : Type} {f : α → KasT β} {P : β → Prop} : ∀ (t : KasT α), Good n r t (fun a => Good n r (f a) P) → Good n r (t.bind f) P
  | .ret a, h => h
  | .ask i j k, h => ⟨h.1, h.2.1, Good.bind (k (r i j)) h.2.2⟩
theorem Good.mono {α : Type} {P Q : α → Prop} (k : ∀ a, P a → Q a) : ∀ (t : KasT α), Good n r t P → Good n r t Q
  | .ret a, h => k a h
  | .ask i j f, h => ⟨h.1, h.2.1, Good.mono k (f (r i j)) h.2.2⟩

variable {key : Nat → Int}
noncomputable abbrev byKey (key : Nat → Int) : Nat → Nat → Bool := fun i j => decide (key i < key j)

noncomputable abbrev at0 (p : Array Nat) (i : Nat) : Nat := p.getD i 0
theorem getD_of {p : Array Nat} {i : Nat} (h : i < p.size) : p[i]? = some (at0 p i) := by
  rw [Array.getElem?_eq_getElem h]; simp [at0, Array.getD, h]
theorem at0_of {p : Array Nat} {i v : Nat} (h : p[i]? = some v) : at0 p i = v := by
  have hl : i < p.size := (Array.getElem?_eq_some_iff.mp h).1
  rw [getD_of hl] at h; exact Option.some.inj h

/-- an order of the places below n -/
structure Pm (n : Nat) (p : Array Nat) : Prop where
  size : p.size = n
  lt : ∀ i, i < n → at0 p i < n
  inj : ∀ i j, i < n → j < n → at0 p i = at0 p j → i = j
  sur : ∀ x, x < n → ∃ i, i < n ∧ at0 p i = x

theorem Pm.of_perm {p q : Array Nat} (h : Pm n p) (hq : q.Perm p) : Pm n q := by
  have hs : q.size = n := hq.size_eq.trans h.size
  have hl := Array.perm_iff_toList_perm.mp hq
  have hnp : p.toList.Nodup := by
    rw [List.nodup_iff_pairwise_ne, List.pairwise_iff_getElem]
    intro i j hi hj hij e
    have hi' : i < p.size := by simpa using hi
    have hj' : j < p.size := by simpa using hj
    have e1 : at0 p i = p.toList[i] := at0_of (by simp [hi'])
    have e2 : at0 p j = p.toList[j] := at0_of (by simp [hj'])
    have := h.inj i j (h.size ▸ hi') (h.size ▸ hj') (by rw [e1, e2, e])
    omega
  have hnq : q.toList.Nodup := hl.nodup_iff.mpr hnp
  have mem : ∀ i, i < n → at0 q i ∈ q.toList := fun i hi => by
    have := getD_of (p := q) (i := i) (by omega)
    exact Array.mem_toList_iff.mpr (Array.mem_of_getElem? this)
  refine ⟨hs, fun i hi => ?_, fun i j hi hj e => ?_, fun x hx => ?_⟩
  · have := hl.mem_iff.mp (mem i hi)
    obtain ⟨k, hk⟩ := List.getElem?_of_mem this
    rw [Array.getElem?_toList] at hk
    have hkl : k < p.size := (Array.getElem?_eq_some_iff.mp hk).1
    rw [← at0_of hk]; exact h.lt k (h.size ▸ hkl)
  · have hi' : i < q.toList.length := by simp [hs, hi]
    have hj' : j < q.toList.length := by simp [hs, hj]
    have e1 : at0 q i = q.toList[i] := at0_of (by simp [hs, hi])
    have e2 : at0 q j = q.toList[j] := at0_of (by simp [hs, hj])
    exact (List.getElem_inj hnq).mp (by rw [← e1, ← e2, e])
  · obtain ⟨k, hk, e⟩ := h.sur x hx
    have hm : x ∈ p.toList := by
      have := getD_of (p := p) (i := k) (by rw [h.size]; exact hk)
      rw [e] at this
      exact Array.mem_toList_iff.mpr (Array.mem_of_getElem? this)
    obtain ⟨i, hi⟩ := List.getElem?_of_mem (hl.mem_iff.mpr hm)
    rw [Array.getElem?_toList] at hi
    exact ⟨i, by have := (Array.getElem?_eq_some_iff.mp hi).1; omega, at0_of hi⟩

/-- the first is the least of the first k -/
noncomputable def Hd (key : Nat → Int) (p : Array Nat) (k : Nat) : Prop := ∀ i, i < k → key (at0 p 0) ≤ key (at0 p i)

theorem asc_good {p : Array Nat} (hp : Pm n p) : ∀ (f m : Nat), 1 ≤ m → m + f = n → Hd key p m → (∀ i, 1 ≤ i → i < m → key (at0 p (i - 1)) ≤ key (at0 p i)) →
    Good n (byKey key) (kas_asc p f m) (fun k => m ≤ k ∧ k ≤ n ∧ Hd key p k ∧ (∀ i, 1 ≤ i → i < k → key (at0 p (i - 1)) ≤ key (at0 p i)) ∧ (k < n → key (at0 p k) < key (at0 p (k - 1))))
  | 0, m, h1, hm, hd, ha => ⟨Nat.le_refl _, by omega, hd, ha, by omega⟩
  | f + 1, m, h1, hm, hd, ha => by
    refine ⟨hp.lt m (by omega), hp.lt (m - 1) (by omega), ?_⟩
    show Good n _ (if byKey key (at0 p m) (at0 p (m - 1)) = true then .ret m else kas_asc p f (m + 1)) _
    split
    · rename_i h
      exact ⟨Nat.le_refl _, by omega, hd, ha, fun _ => by simpa using h⟩
    · rename_i h
      have h : key (at0 p (m - 1)) ≤ key (at0 p m) := by simpa using h
      refine Good.mono (fun k q => ⟨by omega, q.2⟩) _ (asc_good hp f (m + 1) (by omega) (by omega) (fun i hi => ?_) fun i hi1 hi2 => ?_)
      · by_cases e : i = m
        · subst e; exact Int.le_trans (hd _ (by omega)) h
        · exact hd i (by omega)
      · by_cases e : i = m
        · subst e; exact h
        · exact ha i hi1 (by omega)

variable (hk : ∀ i j, i < n → j < n → i ≠ j → key i ≠ key j)
include hk
theorem desc_good : ∀ (f : Nat) {p : Array Nat} (hp : Pm n p) (m : Nat), 2 ≤ m → m + f = n → (∀ i, 1 ≤ i → i < m → key (at0 p i) < key (at0 p (i - 1))) →
    Good n (byKey key) (kas_desc f p m 0) (fun r => r.1 = p ∧ r.2.2 = 0 ∧ 2 ≤ r.2.1 ∧ r.2.1 ≤ n ∧ ∀ i, 1 ≤ i → i < r.2.1 → key (at0 p i) < key (at0 p (i - 1)))
  | 0, p, hp, m, h2, hm, hd => ⟨rfl, rfl, h2, by show m ≤ n; omega, hd⟩
  | f + 1, p, hp, m, h2, hm, hd => by
    refine ⟨hp.lt m (by omega), hp.lt (m - 1) (by omega), ?_⟩
    show Good n _ (if byKey key (at0 p m) (at0 p (m - 1)) = true then (if 0 > 0 then kas_desc f (kas_rev p (m - (0 + 1)) m) (m + 1) 0 else kas_desc f p (m + 1) 0)
      else .ask (at0 p (m - 1)) (at0 p m) fun d => if d = true then .ret (p, m, 0) else kas_desc f p (m + 1) (0 + 1)) _
    split
    · rename_i h
      have h : key (at0 p m) < key (at0 p (m - 1)) := by simpa using h
      rw [if_neg (by omega)]
      refine desc_good f hp (m + 1) (by omega) (by omega) fun i h1 hi => ?_
      by_cases e : i = m
      · subst e; exact h
      · exact hd i h1 (by omega)
    · rename_i h
      have h : key (at0 p (m - 1)) ≤ key (at0 p m) := by simpa using h
      refine ⟨hp.lt (m - 1) (by omega), hp.lt m (by omega), ?_⟩
      have hne := hk _ _ (hp.lt (m - 1) (by omega)) (hp.lt m (by omega)) (fun e => by have := hp.inj _ _ (by omega) (by omega) e; omega)
      have hlt : byKey key (at0 p (m - 1)) (at0 p m) = true := by simp only [byKey, decide_eq_true_eq]; omega
      rw [hlt]
      show Good n _ (.ret (p, m, 0)) _
      exact ⟨rfl, rfl, h2, by show m ≤ n; omega, hd⟩

theorem rev_pm {p : Array Nat} (hp : Pm n p) (i j : Nat) : Pm n (kas_rev p i j) := hp.of_perm (mirror_perm _ _ _ _)
theorem tail_good {p : Array Nat} (hp : Pm n p) {m : Nat} (h2 : 1 ≤ m) (hm : m ≤ n) (hd : ∀ i, 1 ≤ i → i < m → key (at0 p i) < key (at0 p (i - 1))) :
    Good n (byKey key) (kas_tail3 m n p) (fun r => Pm n r.2 ∧ 1 ≤ r.1 ∧ r.1 ≤ n ∧ Hd key r.2 r.1) := by
  have hp' := rev_pm hk hp 0 m
  have ht : ∀ i, i < m → at0 (kas_rev p 0 m) i = at0 p (m - 1 - i) := fun i hi => by
    refine at0_of ?_
    unfold kas_rev
    rw [getElem?_mirror_all (by rw [hp.size]; exact hm), if_pos (by omega), show 0 + m - 1 - i = m - 1 - i by omega]
    exact getD_of (by rw [hp.size]; omega)
  have ha : ∀ i, 1 ≤ i → i < m → key (at0 (kas_rev p 0 m) (i - 1)) ≤ key (at0 (kas_rev p 0 m) i) := fun i h1 hi => by
    rw [ht i hi, ht (i - 1) (by omega)]
    have := hd (m - 1 - (i - 1)) (by omega) (by omega)
    rw [show m - 1 - (i - 1) - 1 = m - 1 - i by omega] at this
    exact Int.le_of_lt this
  have hh : ∀ k, k ≤ m → Hd key (kas_rev p 0 m) k := by
    intro k
    induction k with
    | zero => intro _ i hi; omega
    | succ k ih =>
      intro hk i hi
      by_cases e : i = k
      · subst e
        by_cases h0 : i = 0
        · subst h0; exact Int.le_refl _
        · exact Int.le_trans (ih (by omega) (i - 1) (by omega)) (ha i (by omega) (by omega))
      · exact ih (by omega) i (by omega)
  refine Good.bind _ (Good.mono (fun k q => ?_) _ (asc_good hp' (n - m) m h2 (by omega) (hh m (Nat.le_refl _)) ha))
  exact ⟨hp', by show 1 ≤ k; omega, q.2.1, q.2.2.1⟩

theorem count_good {p : Array Nat} (hp : Pm n p) (hn : 1 ≤ n) : Good n (byKey key) (kas_count n p) (fun r => Pm n r.2 ∧ 1 ≤ r.1 ∧ r.1 ≤ n ∧ Hd key r.2 r.1) := by
  refine Good.bind _ (Good.mono (fun m q => ?_) _ (asc_good hp (n - 1) 1 (Nat.le_refl _) (by omega) (fun i hi => by rw [show i = 0 by omega]; exact Int.le_refl _) fun i h1 h2 => by omega))
  obtain ⟨h1, hm, hd, ha, hlt⟩ := q
  split
  · exact ⟨hp, h1, hm, hd⟩
  · rename_i hne
    have hne : m ≠ n := by simpa using hne
    split
    · rename_i hm1
      refine ⟨hp.lt 0 (by omega), hp.lt (m - 1) (by omega), ?_⟩
      have h0 := hd (m - 1) (by omega)
      have := hk _ _ (hp.lt 0 (by omega)) (hp.lt (m - 1) (by omega)) (fun e => by have := hp.inj _ _ (by omega) (by omega) e; omega)
      have hc : byKey key (at0 p 0) (at0 p (m - 1)) = true := by simp only [byKey, decide_eq_true_eq]; omega
      show Good n _ (if byKey key (at0 p 0) (at0 p (m - 1)) = true then _ else _) _
      rw [if_pos hc]
      exact ⟨hp, h1, hm, hd⟩
    · have hm1 : m = 1 := by omega
      subst hm1
      have hlt := hlt (by omega)
      refine Good.bind _ (Good.mono (fun r q => ?_) _ (desc_good hk (n - (1 + 1)) hp (1 + 1) (by omega) (by omega) fun i h1 h2 => by rw [show i = 1 by omega]; exact hlt))
      obtain ⟨e1, e2, e3, e4, e5⟩ := q
      rw [e2, if_neg (by omega), e1]
      exact tail_good hk hp (by omega) e4 e5

omit hk in
theorem place_good {p : Array Nat} (hp : Pm n p) {k : Nat} (hkn : k < n) (hd : Hd key p k) : ∀ (f l r : Nat), r - l ≤ f → l ≤ r → r ≤ k → (0 < l → key (at0 p 0) ≤ key (at0 p k)) →
    Good n (byKey key) (kas_place p k f l r) (fun L => L ≤ k ∧ (0 < L → key (at0 p 0) ≤ key (at0 p k)) ∧ (L = 0 → r = 0 ∨ key (at0 p k) < key (at0 p 0)))
  | 0, l, r, hf, hlr, hrk, hl => ⟨by omega, hl, fun e => .inl (by omega)⟩
  | f + 1, l, r, hf, hlr, hrk, hl => by
    unfold kas_place
    split
    · exact ⟨by omega, hl, fun e => .inl (by omega)⟩
    · rename_i h
      refine ⟨hp.lt k hkn, hp.lt _ (by omega), ?_⟩
      show Good n _ (if byKey key (at0 p k) (at0 p ((l + r) / 2)) = true then _ else _) _
      split
      · rename_i hc
        have hc : key (at0 p k) < key (at0 p ((l + r) / 2)) := by simpa using hc
        refine Good.mono (fun L q => ⟨q.1, q.2.1, fun e => ?_⟩) _ (place_good hp hkn hd f l ((l + r) / 2) (by omega) (by omega) (by omega) hl)
        rcases q.2.2 e with q | q
        · rw [q] at hc; exact .inr hc
        · exact .inr q
      · rename_i hc
        have hc : key (at0 p ((l + r) / 2)) ≤ key (at0 p k) := by simpa using hc
        have hge : key (at0 p 0) ≤ key (at0 p k) := Int.le_trans (hd _ (by omega)) hc
        refine Good.mono (fun L q => ⟨q.1, q.2.1, fun e => (q.2.2 e)⟩) _ (place_good hp hkn hd f ((l + r) / 2 + 1) r (by omega) (by omega) hrk fun _ => hge)

omit hk in
theorem bin_good : ∀ (f : Nat) {p : Array Nat} (hp : Pm n p) (k : Nat), 1 ≤ k → k + f = n → Hd key p k → Good n (byKey key) (kas_bin f p k) (fun q => Pm n q ∧ Hd key q n)
  | 0, p, hp, k, h1, hkn, hd => ⟨hp, by rw [← hkn]; exact hd⟩
  | f + 1, p, hp, k, h1, hkn, hd => by
    refine Good.bind _ (Good.mono (fun L q => ?_) _ (place_good hp (by omega) hd k 0 k (by omega) (by omega) (Nat.le_refl _) fun h => by omega))
    obtain ⟨hL, hp1, hp0⟩ := q
    refine bin_good f (hp.of_perm (bubble_perm _ _ _)) (k + 1) (by omega) (by omega) fun i hi => ?_
    have hg : ∀ j, j ≤ k → at0 (bubble p k (k - L)) j = if j = L then at0 p k else if L < j then at0 p (j - 1) else at0 p j := fun j hj => by
      refine at0_of ?_
      rw [getElem?_bubble (by rw [hp.size]; omega) _ (by omega), show k - (k - L) = L by omega]
      by_cases e1 : j = L
      · rw [if_pos e1, if_pos e1]; exact getD_of (by rw [hp.size]; omega)
      · rw [if_neg e1, if_neg e1]
        by_cases e2 : L < j
        · rw [if_pos ⟨e2, hj⟩, if_pos e2]; exact getD_of (by rw [hp.size]; omega)
        · rw [if_neg (by omega), if_neg e2]; exact getD_of (by rw [hp.size]; omega)
    have low : ∀ j, j ≤ k → key (at0 (bubble p k (k - L)) 0) ≤ key (at0 p j) := fun j hj => by
      rw [hg 0 (by omega)]
      by_cases hL0 : L = 0
      · subst hL0
        rw [if_pos rfl]
        by_cases e : j = k
        · subst e; exact Int.le_refl _
        · rcases hp0 rfl with q | q
          · omega
          · exact Int.le_trans (Int.le_of_lt q) (hd j (by omega))
      · rw [if_neg (by omega), if_neg (by omega)]
        by_cases e : j = k
        · subst e; exact hp1 (by omega)
        · exact hd j (by omega)
    rw [hg i (by omega)]
    split
    · exact low k (Nat.le_refl _)
    · split
      · exact low _ (by omega)
      · exact low _ (by omega)

theorem sort_good (hn : 1 ≤ n) : Good n (byKey key) (kas_sort n) (fun p => Pm n p ∧ Hd key p n) := by
  have hp : Pm n (List.toArray (List.range n)) := by
    have e : ∀ i, i < n → at0 (List.toArray (List.range n)) i = i := fun i hi => at0_of (by simp [hi])
    exact ⟨by simp, fun i hi => by rw [e i hi]; exact hi, fun i j hi hj h => by rwa [e i hi, e j hj] at h, fun x hx => ⟨x, hx, e x hx⟩⟩
  refine Good.bind _ (Good.mono (fun r q => ?_) _ (count_good hk hp hn))
  obtain ⟨h1, h2, h3, h4⟩ := q
  split
  · rw [show max r.1 1 = r.1 by omega]
    exact bin_good _ h1 _ h2 (by omega) h4
  · exact ⟨h1, by rw [show n = r.1 by omega]; exact h4⟩
end
end Mine
namespace Mine

noncomputable def KRun {α : Type} (r : Nat → Nat → Bool) : KasT α → α
  | .ret a => a
  | .ask i j k => KRun r (k (r i j))
section
variable {n : Nat} {r : Nat → Nat → Bool}
theorem Good.run {α : Type} {P : α → Prop} : ∀ (t : KasT α), Good n r t P → P (KRun r t)
  | .ret a, h => h
  | .ask i j k, h => Good.run (k (r i j)) h.2.2
theorem Good.wpr {α : Type} {cmp : Nat → Nat → (Bool → Shared → Prop) → Shared → Prop} {s : Shared} {Q : α → Shared → Prop} {P : α → Prop}
    (hc : ∀ i j C, i < n → j < n → C (r i j) s → cmp i j C s) : ∀ (t : KasT α), Good n r t P → Q (KRun r t) s → t.kasWp cmp Q s
  | .ret a, _, q => q
  | .ask i j k, h, q => hc i j _ h.1 h.2.1 (Good.wpr hc (k (r i j)) h.2.2 q)
end

section
variable {c : Wd} {A : Around} {s : Shared}
theorem sort_list {a : Addr} {vs : List Value} {m : Nat} {r : Nat → Nat → Bool} {P : PySem.Fin → Shared → Prop} {G : Array Nat → Prop} (ho : s.heap.get? a = some (seqObj "list" vs.toArray m)) (h1 : 1 ≤ vs.length) (h64 : vs.length < 64)
    (hgood : Good vs.length r (kas_sort vs.length) G) (hG : ∀ p, G p → p.size = vs.length)
    (hask : 2 ≤ vs.length → ∀ s', (∀ b o, b ≠ a → s.heap.get? b = some o → s'.heap.get? b = some o) → ∃ κ, (∀ Q, Q κ s' → wpAny (model c.prog c.w) A (keyKind' vs.toArray) Q FF s') ∧ ∀ i j C, i < vs.length → j < vs.length → C (r i j) s' → kas_ask c.prog c.w A κ vs i j C s')
    (hQ : ∀ h', (∀ b o, b ≠ a → s.heap.get? b = some o → h'.get? b = some o) → s.heap.objs.size ≤ h'.objs.size → (∃ k, h'.get? a = some (seqObj "list" (List.toArray ((KRun r (kas_sort vs.length)).toList.map fun i => vs.getD i .none)) k)) → P (.done (.ret .none)) { s with heap := h' }) :
    wpAny (model c.prog c.w) A (Builtin.«list.sort» ⟨[.ref a], []⟩) P FF s := by
  have ha : a < s.heap.objs.size := Heap.lt_size ho
  have hps : (KRun r (kas_sort vs.length)).size = vs.length := hG _ hgood.run
  generalize hout : (KRun r (kas_sort vs.length)).toList.map (fun i => vs.getD i Value.none) = out at hQ
  have hol : out.length = vs.length := by rw [← hout, List.length_map, Array.length_toList, hps]
  rw [list_sort_plain]
  refine wpAny_bind (listItems_at ho rfl ?_)
  refine wpAny_bind (listUpdate_at ho rfl ?_ (by rw [List.size_toArray, sizeLine_eq]; omega) (Nat.zero_le _))
  obtain ⟨k1, ho1⟩ : ∃ k1, (s.heap.update a (Obj.mapSeq fun _ => (#[] : Array Value))).get? a = some (seqObj "list" #[] k1) := ⟨_, get?_update_seq ho fun _ => #[]⟩
  refine wpAny_bind (seqEpoch_at ho1 rfl ?_)
  refine wpAny_bind (wpAny_newTuple ?_ (by show vs.length ≤ _; rw [sizeLine_eq]; omega))
  refine wpAny_bind (wpAny_newList ?_ (Nat.zero_le _))
  refine wpAny_holding ?_
  have hsz : (s.heap.update a (Obj.mapSeq fun _ => (#[] : Array Value))).objs.size = s.heap.objs.size := Heap.size_update ..
  generalize hH : (((s.heap.update a (Obj.mapSeq fun _ => (#[] : Array Value))).push { cls := .type "tuple", data := .seq vs.toArray.toList.toArray }).push { cls := .type "list", data := .seq ([] : List Value).toArray }) = H
  have zH : H.objs.size = s.heap.objs.size + 2 := by rw [← hH, push_size, push_size, hsz]
  have keep : ∀ b o, b ≠ a → s.heap.get? b = some o → H.get? b = some o := fun b o nb e => by
    rw [← hH]; exact Heap.get?_push_of_some _ (Heap.get?_push_of_some _ (by rw [Heap.get?_update_ne _ _ _ _ nb]; exact e))
  have oH : H.get? a = some (seqObj "list" #[] k1) := by rw [← hH]; exact Heap.get?_push_of_some _ (Heap.get?_push_of_some _ ho1)
  show wpAny (model c.prog c.w) A _ P FF { s with heap := H }
  have fin : ∀ (st : SortSt), failedOf st = none → (arrOf st).map (·.2) = List.toArray out → wpAny (model c.prog c.w) A (do
      let touched := (← seqEpoch a) != k1
      Builtin.List.listUpdate (.ref a) fun _ => (arrOf st).map (·.2)
      if let some e := failedOf st then rule "list.sort.comparison-raised"; throw e
      if touched then rule "list.sort.modified"; raiseError "ValueError" "list modified during sort"
      ret .none) P FF { s with heap := H } := fun st hf hs => by
    have key := get?_update_seq oH (fun _ => (arrOf st).map (·.2))
    rw [hs] at key
    refine wpAny_bind (seqEpoch_at oH rfl ?_)
    refine wpAny_bind (listUpdate_at oH rfl ?_ (Nat.zero_le _) (by rw [hs, List.size_toArray, hol, sizeLine_eq]; omega))
    rw [hf, hs]
    simp only [bne_self_eq_false, Bool.false_eq_true, if_false]
    refine wpAny_pure (hQ _ (fun b o nb e => by show (H.update a _).get? b = _; rw [Heap.get?_update_ne _ _ _ _ nb]; exact keep b o nb e) (by show _ ≤ (H.update a _).objs.size; rw [Heap.size_update, zH]; exact Nat.le_add_right ..) ⟨_, key⟩)
  by_cases h2 : vs.length < 2
  · have hn2 : vs.toArray.size < 2 := by rw [List.size_toArray]; exact h2
    rw [if_pos hn2, if_pos hn2]
    refine wpAny_bind (wpAny_pure ?_)
    dsimp only
    rw [StateT.run_pure]
    refine wpAny_bind (wpAny_pure (fin _ rfl ?_))
    obtain ⟨v, rfl⟩ : ∃ v, vs = [v] := by
      match vs, h1, h2 with
      | [v], _, _ => exact ⟨v, rfl⟩
      | _ :: _ :: _, _, h2 => simp only [List.length_cons] at h2; omega
    have e : kas_sort 1 = .ret #[0] := by
      unfold kas_sort kas_count
      simp [kas_asc, KasT.bind]
    have e1 : (KRun r (kas_sort ([v] : List Value).length)).toList = [0] := by
      show (KRun r (kas_sort 1)).toList = [0]
      rw [e]; rfl
    rw [← hout, e1]
    show (([v].toArray.zip [v].toArray).map (·.2)) = _
    simp
  · have hn2 : ¬ vs.toArray.size < 2 := by rw [List.size_toArray]; exact h2
    rw [if_neg hn2, if_neg hn2]
    obtain ⟨κ, hk, ha'⟩ := hask (by omega) { s with heap := H } keep
    refine wpAny_bind (hk _ ?_)
    refine wpAny_bind (wpAny_mono (kat_run (Q := fun st' s' => s' = { s with heap := H } ∧ failedOf st' = none ∧ (arrOf st').map (·.2) = List.toArray out) (G := fun p s' => p = KRun r (kas_sort vs.length) ∧ s' = { s with heap := H }) rfl (by omega) h64
      (fun p' st' s' a1 a2 a3 a4 => ⟨a4.2, a3, by rw [kat_snds rfl a2, a4.1, hout]⟩) ?_) ?_ fun _ _ e => e)
    · exact Good.wpr (cmp := kas_ask c.prog c.w A κ vs) ha' _ hgood ⟨rfl, rfl⟩
    · rintro ⟨⟨⟩, st'⟩ s' ⟨rfl, hf, hs⟩
      exact fin st' hf hs
end
end Mine
namespace Mine

noncomputable abbrev IT := Int × Tok × Int × Tok
noncomputable def lexl : List IT → Bool
  | [] => false
  | (i, _, j, _) :: r => if i = j then lexl r else decide (i < j)
noncomputable abbrev prs (l : List IT) : List (Value × Value) := l.map fun q => (Value.int q.1 q.2.1, Value.int q.2.2.1 q.2.2.2)

theorem meets_ltI (a b : Addr) (xs ys : Array Value) (l : List IT) (n m : Nat) (hz : xs.toList.zip ys.toList = prs l) (hs : xs.size = ys.size) :
    Meets (Builtin.«tuple.__lt__» ⟨[.ref a, .ref b], []⟩)
      (fun A R s => s.heap.get? a = some { cls := .type "tuple", dict := none, data := .seq xs n, slots := #[] } ∧ s.heap.get? b = some { cls := .type "tuple", dict := none, data := .seq ys m, slots := #[] } ∧
        R (.ok (.ret (.bool (lexl l)))) s) :=
  .of_wp fun prog w A R s h => by
    obtain ⟨hp, g, dr, tk, os⟩ := s; obtain ⟨hl, hb, h⟩ := h
    have f2 := AutoSeq1.sub_tuple_tuple
    wp_walk using wpAny_loadPart' hl, wpAny_loadPart' hb, wpAny_forIn_list _ (fun rest b s' => b.1 = none ∧ s' = ⟨hp, g, dr, tk, os⟩ ∧ ∃ l, rest = prs l ∧ R (.ok (.ret (.bool (lexl l)))) ⟨hp, g, dr, tk, os⟩) _
    case turn =>
      rintro ⟨y, x⟩ rest b s' ⟨hb', rfl, l, hz, hR⟩
      cases l with
      | nil => cases hz
      | cons q l =>
        obtain ⟨i, t, j, u⟩ := q
        simp only [prs, List.map_cons, List.cons.injEq, Prod.mk.injEq] at hz
        obtain ⟨⟨rfl, rfl⟩, rfl⟩ := hz
        simp only [lexl] at hR
        refine wpAny_bind (wpAny_eqBool_int ?_)
        by_cases e : i = j
        · rw [if_pos e] at hR
          have e1 : (i == j) = true := by simpa using e
          rw [e1]
          wp_walk
          exact ⟨rfl, rfl, l, rfl, hR⟩
        · rw [if_neg e] at hR
          have e1 : (i == j) = false := by simpa using e
          rw [e1]
          simp only [Bool.not_false, if_true]
          refine wpAny_bind (wpAny_rule ?_)
          refine wpAny_bind (show wpAny (model prog w) _ (richCompare .Lt (.int i t) (.int j u)) _ _ _ from PyProof.Rows.lt_int ?_)
          refine wpAny_bind (wpAny_pure (wpAny_pure ?_))
          exact wpAny_pure ⟨_, rfl, hR⟩
    case fin =>
      rintro ⟨b1, b2⟩ s' ⟨hb', rfl, l, hz, hR⟩
      simp only at hb'
      subst hb'
      cases l with
      | cons => cases hz
      | nil =>
        wp_walk
        exact ⟨_, rfl, by simpa [Builtin.Tuple.tupleCompareSizes, hs, lexl] using hR⟩
    case h =>
      exact ⟨rfl, rfl, l, hz, h⟩

/-- an item that is sorted: two ints and a tuple of four -/
structure It where
  (u v w a b c : Int)
noncomputable def It.row (x : It) : D := .tup [.int x.w, .int x.a, .int x.b, .int x.c]
noncomputable def It.d (x : It) : D := .tup [.int x.u, .int x.v, x.row]
noncomputable def It.key (x : It) : Int := 64 * x.u + 8 * x.v + x.c
noncomputable def It.no : It := ⟨0, 0, 0, 0, 0, 0⟩
noncomputable def sortL (L : List It) : List It := (KRun (byKey fun i => (L.getD i It.no).key) (kas_sort L.length)).toList.map fun i => L.getD i It.no

section
variable {c : Wd} {A : Around} {X : Addr → Prop} {s s' : Shared} {n : Nat}
theorem ints4 {h : Heap} {vs : List Value} {p q r d : Int} (R : RepL c.prog c.w X h vs [.int p, .int q, .int r, .int d]) : ∃ t1 t2 t3 t4, vs = [.int p t1, .int q t2, .int r t3, .int d t4] := by
  refine R.ec fun v0 _ r0 R => ?_
  refine R.ec fun v1 _ r1 R => ?_
  refine R.e2 fun v2 v3 r2 r3 => ?_
  refine r0.el fun t0 => ?_
  refine r1.el fun t1 => ?_
  refine r2.el fun t2 => ?_
  refine r3.el fun t3 => ?_
  exact ⟨_, _, _, _, rfl⟩

theorem it_rep {h : Heap} {v : Value} {x : It} (R : Rep c.prog c.w X h v x.d) : ∃ a k t1 t2 y, v = .ref a ∧ h.get? a = some { cls := .type "tuple", data := .seq #[.int x.u t1, .int x.v t2, y] k } ∧ Rep c.prog c.w X h y x.row := by
  refine R.el fun a vs k ha hX rl => ?_
  revert ha
  refine rl.ec fun v0 _ r0 rl => ?_
  refine rl.e2 fun v1 v2 r1 r2 => ?_
  refine r0.el fun t0 => ?_
  refine r1.el fun t1 => ?_
  intro ha
  exact ⟨a, k, _, _, _, rfl, ha, r2⟩

theorem lt_rows {y z : Value} {p q r d e : Int} {Q : Value → Shared → Prop} {E : Value → Shared → Prop} (hu : A.units < cLine) (r₁ : Rep c.prog c.w X s.heap y (.tup [.int p, .int q, .int r, .int d])) (r₂ : Rep c.prog c.w X s.heap z (.tup [.int p, .int q, .int r, .int e]))
    (hQ : Q (.bool (decide (d < e))) s) : wpAny (model c.prog c.w) A (compareOp .Lt y z) Q E s := by
  refine r₁.el fun a vs k ha hX rl => ?_
  refine r₂.el fun b us m hb hX' rl' => ?_
  obtain ⟨t1, t2, t3, t4, rfl⟩ := ints4 rl
  obtain ⟨u1, u2, u3, u4, rfl⟩ := ints4 rl'
  have hTa : s.TypeIs (.ref a) "tuple" := ⟨_, ha, rfl⟩
  have hTb : s.TypeIs (.ref b) "tuple" := ⟨_, hb, rfl⟩
  refine wpAny_richCompare_same_room (op := .Lt) hTa hTb F.slot_tuple_lt (call_meets F.slot_tuple_lt hTa F.entry_tuple_lt (F.args_tuple_lt_2 _ _)
    (meets_ltI a b #[.int p t1, .int q t2, .int r t3, .int d t4] #[.int p u1, .int q u2, .int r u3, .int e u4] [(p, t1, p, u1), (q, t2, q, u2), (r, t3, r, u3), (d, t4, e, u4)] k m rfl rfl) ⟨ha, hb, ?_⟩) hu
  show _ ∧ _
  refine ⟨(fun z => by cases z), ?_⟩
  have e1 : lexl [(p, t1, p, u1), (q, t2, q, u2), (r, t3, r, u3), (d, t4, e, u4)] = decide (d < e) := by
    simp only [lexl, if_true]
    by_cases h : d = e
    · rw [if_pos h]; subst h; simp
    · rw [if_neg h]
  rw [e1]; exact hQ

theorem eq_rows {y z : Value} {p q r d e : Int} {Q : Bool → Shared → Prop} {E : Value → Shared → Prop} (hu : A.units + 64 < cLine) (r₁ : Rep c.prog c.w X s.heap y (.tup [.int p, .int q, .int r, .int d])) (r₂ : Rep c.prog c.w X s.heap z (.tup [.int p, .int q, .int r, .int e]))
    (hQ : Q (d == e) s) : wpAny (model c.prog c.w) A (eqBool y z) Q E s := by
  have ok : ∀ f, okD 1 (.tup [.int p, .int q, .int r, .int f]) := fun f d hd => by
    simp only [List.mem_cons, List.not_mem_nil, or_false] at hd
    rcases hd with rfl | rfl | rfl | rfl <;> trivial
  obtain ⟨as, ra⟩ := r₁.reads 1 (ok d)
  obtain ⟨bs, rb⟩ := r₂.reads 1 (ok e)
  refine SeqAt.eqAt_reads _ _ A s y z as bs ra rb (SeqAt.canLay_of_shaped (okD_shaped (ok d) (by decide))) (SeqAt.canLay_of_shaped (okD_shaped (ok e) (by decide))) (SeqAt.room_of_shaped (okD_shaped (ok d) (by decide)) hu) c.prog c.w E Q ?_
  have e1 : PyData.eqv (dP (.tup [.int p, .int q, .int r, .int d])) (dP (.tup [.int p, .int q, .int r, .int e])) = (d == e) := by
    simp [dP, dPs, PyData.eqv, PyData.eqvAll]
  rw [e1]; exact hQ

theorem kat_of : ∀ {vs : List Value} {L : List It}, RepL c.prog c.w X s.heap vs (L.map It.d) → ∃ fs, KatTups s.heap vs fs ∧ fs.length = vs.length ∧ ∀ v ∈ fs, ∃ i t, v = Value.int i t
  | _, [], .nil => ⟨[], .nil, rfl, fun _ h => nomatch h⟩
  | _, x :: L, .cons r rl => by
    obtain ⟨fs, h1, h2, h3⟩ := kat_of rl
    obtain ⟨a, k, t1, t2, y, rfl, ha, _⟩ := it_rep r
    refine ⟨.int x.u t1 :: fs, .cons ha rfl rfl rfl h1, by simp [h2], fun v hv => ?_⟩
    rcases List.mem_cons.mp hv with rfl | hv
    · exact ⟨_, _, rfl⟩
    · exact h3 v hv

theorem ask_it {vs : List Value} {L : List It} {i j : Nat} {C : Bool → Shared → Prop} (hu : A.units + 64 < cLine) (rl : RepL c.prog c.w X s.heap vs (L.map It.d)) (hi : i < L.length) (hj : j < L.length)
    (hb : ∀ x ∈ L, -3 ≤ x.v ∧ x.v ≤ 3 ∧ 0 ≤ x.c ∧ x.c ≤ 3) (hs : ∀ x ∈ L, ∀ y ∈ L, x.u = y.u → x.v = y.v → x.w = y.w ∧ x.a = y.a ∧ x.b = y.b)
    (hC : C (byKey (fun i => (L.getD i It.no).key) i j) s) : kas_ask c.prog c.w A (tuples' true) vs i j C s := by
  have gi : L[i]? = some (L.getD i It.no) := by rw [List.getD_eq_getElem?_getD, List.getElem?_eq_getElem hi]; rfl
  have gj : L[j]? = some (L.getD j It.no) := by rw [List.getD_eq_getElem?_getD, List.getElem?_eq_getElem hj]; rfl
  have mi := List.mem_of_getElem? gi
  have mj := List.mem_of_getElem? gj
  generalize hx : L.getD i It.no = x at *
  generalize hy : L.getD j It.no = y at *
  obtain ⟨v, hv, rv⟩ := rl.get i x.d (by rw [List.getElem?_map, gi]; rfl)
  obtain ⟨u, hu', ru⟩ := rl.get j y.d (by rw [List.getElem?_map, gj]; rfl)
  have ev : vs.getD i Value.none = v := by rw [List.getD_eq_getElem?_getD, hv]; rfl
  have eu : vs.getD j Value.none = u := by rw [List.getD_eq_getElem?_getD, hu']; rfl
  obtain ⟨a, k, t1, t2, p, rfl, ha, rp⟩ := it_rep rv
  obtain ⟨b, m, u1, u2, q, rfl, hb', rq⟩ := it_rep ru
  have bx := hb x mi
  have by_ := hb y mj
  have hC : C (decide (x.key < y.key)) s := by simp only [byKey, hx, hy] at hC; exact hC
  unfold kas_ask
  rw [ev, eu]
  refine kat_lt ha rfl hb' rfl ?_
  show KatLex _ _ _ _ _ _ [(Value.int x.u t1, Value.int y.u u1), (Value.int x.v t2, Value.int y.v u2), (p, q)] 0 s
  have hfin : decide ((#[Value.int x.u t1, Value.int x.v t2, p] : Array Value).size < (#[Value.int y.u u1, Value.int y.v u2, q] : Array Value).size) = false := rfl
  rw [hfin]
  unfold It.key at hC
  refine kat_cons (wpAny_eqBool_int ?_)
  by_cases e1 : x.u = y.u
  · rw [show (x.u == y.u) = true by simpa using e1]
    refine kat_yes (kat_cons (wpAny_eqBool_int ?_))
    by_cases e2 : x.v = y.v
    · rw [show (x.v == y.v) = true by simpa using e2]
      obtain ⟨e3, e4, e5⟩ := hs x mi y mj e1 e2
      unfold It.row at rp rq
      rw [← e3, ← e4, ← e5] at rq
      have e6 : decide (64 * x.u + 8 * x.v + x.c < 64 * y.u + 8 * y.v + y.c) = decide (x.c < y.c) := by
        rw [decide_eq_decide]; omega
      rw [e6] at hC
      refine kat_yes (kat_cons (eq_rows hu rp rq ?_))
      by_cases e7 : x.c = y.c
      · rw [show (x.c == y.c) = true by simpa using e7]
        refine kat_yes (kat_nil ?_)
        have : decide (x.c < y.c) = false := by rw [e7]; simp
        rw [this] at hC; exact hC
      · rw [show (x.c == y.c) = false by simpa using e7]
        exact kat_no (kat_one _ _ (lt_rows (by omega) rp rq hC))
    · rw [show (x.v == y.v) = false by simpa using e2]
      have e6 : decide (64 * x.u + 8 * x.v + x.c < 64 * y.u + 8 * y.v + y.c) = decide (x.v < y.v) := by
        rw [decide_eq_decide]; omega
      rw [e6] at hC
      exact kat_no (kat_one _ _ (PyProof.Rows.lt_int hC))
  · rw [show (x.u == y.u) = false by simpa using e1]
    have e6 : decide (64 * x.u + 8 * x.v + x.c < 64 * y.u + 8 * y.v + y.c) = decide (x.u < y.u) := by
      rw [decide_eq_decide]; omega
    rw [e6] at hC
    exact kat_no (oneLt_int hC)

theorem fn_sorted {L : List It} (h1 : 1 ≤ L.length) (h64 : L.length < 64) (hb : ∀ x ∈ L, -3 ≤ x.v ∧ x.v ≤ 3 ∧ 0 ≤ x.c ∧ x.c ≤ 3) (hs : ∀ x ∈ L, ∀ y ∈ L, x.u = y.u → x.v = y.v → x.w = y.w ∧ x.a = y.a ∧ x.b = y.b)
    (hd : ∀ i j, i < L.length → j < L.length → i ≠ j → (L.getD i It.no).key ≠ (L.getD j It.no).key) : FnJ c (.builtin "sorted") n [.list (L.map It.d)] (.list ((sortL L).map It.d)) := fun A s X vs t r => by
  refine r.ec fun _ _ r0 r1 => ?_
  (first | refine r1.eg ?_ | refine r1.eb ?_ | refine r1.en ?_ | refine r1.e0 ?_ | refine r1.el fun _ => ?_ | cases r1)
  refine r0.el fun l vs k hl hX rl => ?_
  have hlen : vs.length = L.length := by rw [rl.length, List.length_map]
  have hIs : s.heap.IsList l vs.toArray := ⟨_, hl, rfl, _, rfl⟩
  refine Calls.call_function_entry kind_sorted plain_sorted entry_sorted (args_sorted1 _) ?_
  unfold Builtin.«sorted»
  refine wpAny_bind (m := checkCount "sorted" 1 1 _) (wpAny_pure ?_)
  refine wpAny_bind (collect_list hIs ?_ (by rw [sizeLine_eq]; omega))
  refine wpAny_bind (wpAny_newList ?_ (by rw [sizeLine_eq]; omega))
  generalize hH : ((s.heap.push (seqObj "list" #[] 0)).update s.heap.objs.size (Obj.mapSeq (· ++ vs.toArray))).push { cls := .type "list", data := .seq vs.toArray } = H
  have hsz : ((s.heap.push (seqObj "list" #[] 0)).update s.heap.objs.size (Obj.mapSeq (· ++ vs.toArray))).objs.size = s.heap.objs.size + 1 := by rw [Heap.size_update, push_size]
  have zH : H.objs.size = s.heap.objs.size + 2 := by rw [← hH, push_size, hsz]
  have gH : H.get? (s.heap.objs.size + 1) = some (seqObj "list" vs.toArray 0) := by rw [← hH, ← hsz]; exact Heap.get?_push_size _ rfl
  have keep : ∀ b o, s.heap.get? b = some o → H.get? b = some o := fun b o q => by
    have hlt : b < s.heap.objs.size := Heap.lt_size q
    rw [← hH]
    refine Heap.get?_push_of_some _ ?_
    rw [Heap.get?_update_ne _ _ _ _ (Nat.ne_of_lt hlt)]
    exact Heap.get?_push_of_some _ q
  show wpAny _ _ _ _ _ { s with heap := H }
  rw [hsz]
  have hgood := sort_good (n := vs.length) (key := fun i => (L.getD i It.no).key) (fun i j hi hj => hd i j (hlen ▸ hi) (hlen ▸ hj)) (by omega)
  refine wpAny_bind (wpAny_holding (wpAny_call_entry slot_list_sort ⟨_, gH, rfl⟩ entry_list_sort (sort_list (s := { s with heap := H }) gH (by omega) (by omega) hgood (fun p q => q.1.size) (fun h2 s' hk => ?_) fun h' hk hz ho => ?_) (args_list_sort _)))
  · have rl' : RepL c.prog c.w X s'.heap vs (L.map It.d) := rl.move fun b o nb e => ⟨hk b o (fun q => by have := Heap.lt_size e; rw [q] at this; exact Nat.lt_irrefl _ (Nat.lt_of_succ_lt this)) (keep b o e), nb⟩
    refine ⟨tuples' true, fun Q q => ?_, fun i j C hi hj hC => ask_it (by have := t.room.u; show A.units + 1 + 1 + 64 < 9900; omega) rl' (hlen ▸ hi) (hlen ▸ hj) hb hs hC⟩
    obtain ⟨fs, k1, k2, k3⟩ := kat_of rl'
    refine kat_kind (T := .type "int") k1 (by omega) (fun v hv => ?_) rfl q
    obtain ⟨i, t, rfl⟩ := k3 v hv
    exact Looks.of_pure rfl
  · refine ⟨_, rfl, wpAny_pure ⟨_, rfl, ?_⟩⟩
    obtain ⟨k', hk'⟩ := ho
    have e : Ext No s { s with heap := h' } := .of (t := s.toks) (fun b o _ q => hk b o (fun q' => by have := Heap.lt_size q; rw [q'] at this; exact Nat.lt_irrefl _ (Nat.lt_of_succ_lt this)) (keep b o q)) (by
      have : H.objs.size ≤ h'.objs.size := hz
      omega)
    refine ⟨e, .list hk' (fun q => Nat.lt_irrefl _ (Nat.lt_of_succ_lt (t.x _ q))) ?_⟩
    unfold sortL
    rw [hlen] at hgood ⊢
    have hrun := hgood.run
    generalize KRun (byKey fun i => (L.getD i It.no).key) (kas_sort L.length) = p at hrun
    rw [List.map_map]
    refine RepL.of_get (by simp) fun i v d hv hd' => ?_
    simp only [List.getElem?_map, Option.map_eq_some_iff] at hv hd'
    obtain ⟨x, hx, rfl⟩ := hv
    obtain ⟨x', hx', rfl⟩ := hd'
    rw [hx] at hx'; cases hx'
    have hxl : x < L.length := by
      have : p[i]? = some x := by rw [← Array.getElem?_toList]; exact hx
      have hi : i < p.size := (Array.getElem?_eq_some_iff.mp this).1
      rw [← at0_of this]; exact hrun.1.lt i (hrun.1.size ▸ hi)
    have gx : L[x]? = some (L.getD x It.no) := by rw [List.getD_eq_getElem?_getD, List.getElem?_eq_getElem hxl]; rfl
    obtain ⟨v, hv, rv⟩ := rl.get x (L.getD x It.no).d (by rw [List.getElem?_map, gx]; rfl)
    rw [List.getD_eq_getElem?_getD, hv]
    exact rv.ext0 e

theorem sortL_head {L : List It} (h1 : 1 ≤ L.length) (hd : ∀ i j, i < L.length → j < L.length → i ≠ j → (L.getD i It.no).key ≠ (L.getD j It.no).key) :
    ∃ x, (sortL L).take 1 = [x] ∧ x ∈ L ∧ ∀ y ∈ L, x.key ≤ y.key := by
  have hrun := (sort_good (n := L.length) (key := fun i => (L.getD i It.no).key) hd h1).run
  unfold sortL
  generalize KRun (byKey fun i => (L.getD i It.no).key) (kas_sort L.length) = p at hrun
  obtain ⟨hp, hh⟩ := hrun
  have h0 : p[0]? = some (at0 p 0) := getD_of (by rw [hp.size]; exact h1)
  have hlt := hp.lt 0 h1
  refine ⟨L.getD (at0 p 0) It.no, ?_, ?_, fun y hy => ?_⟩
  · have h0' : p.toList[0]? = some (at0 p 0) := by rw [Array.getElem?_toList]; exact h0
    cases e : p.toList with
    | nil => rw [e] at h0'; cases h0'
    | cons q r => rw [e] at h0'; simp at h0'; subst h0'; simp
  · rw [List.getD_eq_getElem?_getD, List.getElem?_eq_getElem hlt]; exact List.getElem_mem hlt
  · obtain ⟨j, hj⟩ := List.getElem?_of_mem hy
    have hjl : j < L.length := (List.getElem?_eq_some_iff.mp hj).1
    obtain ⟨i, hi, e⟩ := hp.sur j hjl
    have := hh i hi
    rw [e] at this
    simp only [List.getD_eq_getElem?_getD, hj, Option.getD_some] at this ⊢
    exact this
end
end Mine
set_option maxRecDepth 100000
namespace Mine

/-- the text's top has run -/
structure Tp (c : Wd) : Prop where
  K : c.K = hd.heap_39 c.w.params
  m : ∀ x v, nsIn c.K mainGlobals x = some (some v) → c.mg x = some v
  no : ∀ x, nsIn c.K mainGlobals x = some none → c.mg x = none
  b : ∀ x : Str, x ≠ "__name__" → c.mb x = bootBuiltins x

/-- settings that matter to nothing read here -/
noncomputable def P0 : PySem.Params where
  strHash := fun _ => 0
  shareClass := fun a => a
  mergeTok := fun a => a
  idOf := fun _ => 0
  idOfShared := fun _ _ => 0
  followText := fun _ => false
  idOfImm := fun _ => 0

noncomputable def fnOf (P : PySem.Params) (a : Addr) : Option FuncData := match (hd.heap_39 P).lookup a with
  | some ⟨_, _, .func fd, _⟩ => some fd
  | _ => none
noncomputable def fnBody (a : Addr) : List Stmt := match fnOf P0 a with
  | some fd => (match fd.body with | .stmts b => b | _ => [])
  | _ => []
noncomputable def fnNames (a : Addr) : List (Str × NameKind) := match fnOf P0 a with
  | some fd => fd.scope.names
  | _ => []

theorem Tp.main {c : Wd} (T : Tp c) {x : Str} {v : Value} (h : nsIn (hd.heap_39 c.w.params) mainGlobals x = some (some v)) : Gl c x v := .inl (T.m x v (T.K ▸ h))
theorem Tp.built {c : Wd} (T : Tp c) {x : Str} {v : Value} (h : nsIn (hd.heap_39 c.w.params) mainGlobals x = some none) (hb : bootBuiltins x = some v) (hn : x ≠ "__name__") : Gl c x v := .inr ⟨T.no x (T.K ▸ h), (T.b x hn).trans hb⟩

theorem args1 {vs : List Value} (h : vs.length = 1) : ∃ a, vs = [a] := List.length_eq_one_iff.mp h
theorem args2 {vs : List Value} (h : vs.length = 2) : ∃ a b, vs = [a, b] := by
  obtain ⟨a, l, rfl⟩ := List.exists_cons_of_length_eq_add_one h
  obtain ⟨b, rfl⟩ := args1 (Nat.succ.inj h)
  exact ⟨a, b, rfl⟩
theorem args3 {vs : List Value} (h : vs.length = 3) : ∃ a b c, vs = [a, b, c] := by
  obtain ⟨a, l, rfl⟩ := List.exists_cons_of_length_eq_add_one h
  obtain ⟨b, c, rfl⟩ := args2 (Nat.succ.inj h)
  exact ⟨a, b, c, rfl⟩
theorem args4 {vs : List Value} (h : vs.length = 4) : ∃ a b c d, vs = [a, b, c, d] := by
  obtain ⟨a, l, rfl⟩ := List.exists_cons_of_length_eq_add_one h
  obtain ⟨b, c, d, rfl⟩ := args3 (Nat.succ.inj h)
  exact ⟨a, b, c, d, rfl⟩
theorem def38 {c : Wd} (T : Tp c) : DefAt c 38 "_substitution_cost" (fnBody 38) (fnNames 38) ["ch_a", "ch_b"] where
  is := ⟨_, _, _, _, _, _, by rw [T.K]; rfl, rfl, rfl, by rw [T.K]; rfl, rfl, rfl, rfl, rfl, rfl, rfl, rfl, rfl, rfl, rfl, fun vals h => by
    obtain ⟨a, b, rfl⟩ := args2 h; rfl⟩
  own := by decide +kernel
  nodup := by decide +kernel
  nd := by decide +kernel
theorem def50 {c : Wd} (T : Tp c) : DefAt c 50 "is_HDN" (fnBody 50) (fnNames 50) ["text"] where
  is := ⟨_, _, _, _, _, _, by rw [T.K]; rfl, rfl, rfl, by rw [T.K]; rfl, rfl, rfl, rfl, rfl, rfl, rfl, rfl, rfl, rfl, rfl, fun vals h => by
    obtain ⟨a, rfl⟩ := args1 h; rfl⟩
  own := by decide +kernel
  nodup := by decide +kernel
  nd := by decide +kernel
theorem def57 {c : Wd} (T : Tp c) : DefAt c 57 "reach" (fnBody 57) (fnNames 57) ["h"] where
  is := ⟨_, _, _, _, _, _, by rw [T.K]; rfl, rfl, rfl, by rw [T.K]; rfl, rfl, rfl, rfl, rfl, rfl, rfl, rfl, rfl, rfl, rfl, fun vals h => by
    obtain ⟨a, rfl⟩ := args1 h; rfl⟩
  own := by decide +kernel
  nodup := by decide +kernel
  nd := by decide +kernel
theorem def64 {c : Wd} (T : Tp c) : DefAt c 64 "_build_localename" (fnBody 64) (fnNames 64) ["localetuple"] where
  is := ⟨_, _, _, _, _, _, by rw [T.K]; rfl, rfl, rfl, by rw [T.K]; rfl, rfl, rfl, rfl, rfl, rfl, rfl, rfl, rfl, rfl, rfl, fun vals h => by
    obtain ⟨a, rfl⟩ := args1 h; rfl⟩
  own := by decide +kernel
  nodup := by decide +kernel
  nd := by decide +kernel
theorem def78 {c : Wd} (T : Tp c) : DefAt c 78 "TupleComp.__init__" (fnBody 78) (fnNames 78) ["self", "comp_select_list"] where
  is := ⟨_, _, _, _, _, _, by rw [T.K]; rfl, rfl, rfl, by rw [T.K]; rfl, rfl, rfl, rfl, rfl, rfl, rfl, rfl, rfl, rfl, rfl, fun vals h => by
    obtain ⟨a, b, rfl⟩ := args2 h; rfl⟩
  own := by decide +kernel
  nodup := by decide +kernel
  nd := by decide +kernel
theorem def85 {c : Wd} (T : Tp c) : DefAt c 85 "TupleComp.compare" (fnBody 85) (fnNames 85) ["self", "left", "right"] where
  is := ⟨_, _, _, _, _, _, by rw [T.K]; rfl, rfl, rfl, by rw [T.K]; rfl, rfl, rfl, rfl, rfl, rfl, rfl, rfl, rfl, rfl, rfl, fun vals h => by
    obtain ⟨a, b, d, rfl⟩ := args3 h; rfl⟩
  own := by decide +kernel
  nodup := by decide +kernel
  nd := by decide +kernel
theorem def99 {c : Wd} (T : Tp c) : DefAt c 99 "add_callers" (fnBody 99) (fnNames 99) ["target", "source"] where
  is := ⟨_, _, _, _, _, _, by rw [T.K]; rfl, rfl, rfl, by rw [T.K]; rfl, rfl, rfl, rfl, rfl, rfl, rfl, rfl, rfl, rfl, rfl, fun vals h => by
    obtain ⟨a, b, rfl⟩ := args2 h; rfl⟩
  own := by decide +kernel
  nodup := by decide +kernel
  nd := by decide +kernel
theorem def106 {c : Wd} (T : Tp c) : DefAt c 106 "count_calls" (fnBody 106) (fnNames 106) ["callers"] where
  is := ⟨_, _, _, _, _, _, by rw [T.K]; rfl, rfl, rfl, by rw [T.K]; rfl, rfl, rfl, rfl, rfl, rfl, rfl, rfl, rfl, rfl, rfl, fun vals h => by
    obtain ⟨a, rfl⟩ := args1 h; rfl⟩
  own := by decide +kernel
  nodup := by decide +kernel
  nd := by decide +kernel
theorem def111 {c : Wd} (T : Tp c) : DefAt c 111 "_law_draw" (fnBody 111) (fnNames 111) ["script"] where
  is := ⟨_, _, _, _, _, _, by rw [T.K]; rfl, rfl, rfl, by rw [T.K]; rfl, rfl, rfl, rfl, rfl, rfl, rfl, rfl, rfl, rfl, rfl, fun vals h => by
    obtain ⟨a, rfl⟩ := args1 h; rfl⟩
  own := by decide +kernel
  nodup := by decide +kernel
  nd := by decide +kernel
theorem def118 {c : Wd} (T : Tp c) : DefAt c 118 "_law_way" (fnBody 118) (fnNames 118) ["number", "top"] where
  is := ⟨_, _, _, _, _, _, by rw [T.K]; rfl, rfl, rfl, by rw [T.K]; rfl, rfl, rfl, rfl, rfl, rfl, rfl, rfl, rfl, rfl, rfl, fun vals h => by
    obtain ⟨a, b, rfl⟩ := args2 h; rfl⟩
  own := by decide +kernel
  nodup := by decide +kernel
  nd := by decide +kernel
theorem def125 {c : Wd} (T : Tp c) : DefAt c 125 "_law_plain_way" (fnBody 125) (fnNames 125) ["number", "top"] where
  is := ⟨_, _, _, _, _, _, by rw [T.K]; rfl, rfl, rfl, by rw [T.K]; rfl, rfl, rfl, rfl, rfl, rfl, rfl, rfl, rfl, rfl, rfl, fun vals h => by
    obtain ⟨a, b, rfl⟩ := args2 h; rfl⟩
  own := by decide +kernel
  nodup := by decide +kernel
  nd := by decide +kernel
theorem def130 {c : Wd} (T : Tp c) : DefAt c 130 "_law_price" (fnBody 130) (fnNames 130) ["way", "other"] where
  is := ⟨_, _, _, _, _, _, by rw [T.K]; rfl, rfl, rfl, by rw [T.K]; rfl, rfl, rfl, rfl, rfl, rfl, rfl, rfl, rfl, rfl, rfl, fun vals h => by
    obtain ⟨a, b, rfl⟩ := args2 h; rfl⟩
  own := by decide +kernel
  nodup := by decide +kernel
  nd := by decide +kernel
theorem def135 {c : Wd} (T : Tp c) : DefAt c 135 "_law_bounds" (fnBody 135) (fnNames 135) ["sellers", "buyers", "sizes"] where
  is := ⟨_, _, _, _, _, _, by rw [T.K]; rfl, rfl, rfl, by rw [T.K]; rfl, rfl, rfl, rfl, rfl, rfl, rfl, rfl, rfl, rfl, rfl, fun vals h => by
    obtain ⟨a, b, d, rfl⟩ := args3 h; rfl⟩
  own := by decide +kernel
  nodup := by decide +kernel
  nd := by decide +kernel
theorem def142 {c : Wd} (T : Tp c) : DefAt c 142 "_law_first" (fnBody 142) (fnNames 142) ["rows", "comp", "turn"] where
  is := ⟨_, _, _, _, _, _, by rw [T.K]; rfl, rfl, rfl, by rw [T.K]; rfl, rfl, rfl, rfl, rfl, rfl, rfl, rfl, rfl, rfl, rfl, fun vals h => by
    obtain ⟨a, b, d, rfl⟩ := args3 h; rfl⟩
  own := by decide +kernel
  nodup := by decide +kernel
  nd := by decide +kernel
theorem def147 {c : Wd} (T : Tp c) : DefAt c 147 "_law_due" (fnBody 147) (fnNames 147) ["rows", "worth", "up", "down"] where
  is := ⟨_, _, _, _, _, _, by rw [T.K]; rfl, rfl, rfl, by rw [T.K]; rfl, rfl, rfl, rfl, rfl, rfl, rfl, rfl, rfl, rfl, rfl, fun vals h => by
    obtain ⟨a, b, d, e, rfl⟩ := args4 h; rfl⟩
  own := by decide +kernel
  nodup := by decide +kernel
  nd := by decide +kernel
theorem def152 {c : Wd} (T : Tp c) : DefAt c 152 "_law_nearest_first" (fnBody 152) (fnNames 152) ["price", "comp"] where
  is := ⟨_, _, _, _, _, _, by rw [T.K]; rfl, rfl, rfl, by rw [T.K]; rfl, rfl, rfl, rfl, rfl, rfl, rfl, rfl, rfl, rfl, rfl, fun vals h => by
    obtain ⟨a, b, rfl⟩ := args2 h; rfl⟩
  own := by decide +kernel
  nodup := by decide +kernel
  nd := by decide +kernel
theorem def157 {c : Wd} (T : Tp c) : DefAt c 157 "_law_book" (fnBody 157) (fnNames 157) ["ways"] where
  is := ⟨_, _, _, _, _, _, by rw [T.K]; rfl, rfl, rfl, by rw [T.K]; rfl, rfl, rfl, rfl, rfl, rfl, rfl, rfl, rfl, rfl, rfl, fun vals h => by
    obtain ⟨a, rfl⟩ := args1 h; rfl⟩
  own := by decide +kernel
  nodup := by decide +kernel
  nd := by decide +kernel
theorem def164 {c : Wd} (T : Tp c) : DefAt c 164 "_law_plain_book" (fnBody 164) (fnNames 164) ["ways"] where
  is := ⟨_, _, _, _, _, _, by rw [T.K]; rfl, rfl, rfl, by rw [T.K]; rfl, rfl, rfl, rfl, rfl, rfl, rfl, rfl, rfl, rfl, rfl, fun vals h => by
    obtain ⟨a, rfl⟩ := args1 h; rfl⟩
  own := by decide +kernel
  nodup := by decide +kernel
  nd := by decide +kernel
theorem def169 {c : Wd} (T : Tp c) : DefAt c 169 "_law_lesser" (fnBody 169) (fnNames 169) ["book"] where
  is := ⟨_, _, _, _, _, _, by rw [T.K]; rfl, rfl, rfl, by rw [T.K]; rfl, rfl, rfl, rfl, rfl, rfl, rfl, rfl, rfl, rfl, rfl, fun vals h => by
    obtain ⟨a, rfl⟩ := args1 h; rfl⟩
  own := by decide +kernel
  nodup := by decide +kernel
  nd := by decide +kernel
theorem def174 {c : Wd} (T : Tp c) : DefAt c 174 "_law_above" (fnBody 174) (fnNames 174) ["book"] where
  is := ⟨_, _, _, _, _, _, by rw [T.K]; rfl, rfl, rfl, by rw [T.K]; rfl, rfl, rfl, rfl, rfl, rfl, rfl, rfl, rfl, rfl, rfl, fun vals h => by
    obtain ⟨a, rfl⟩ := args1 h; rfl⟩
  own := by decide +kernel
  nodup := by decide +kernel
  nd := by decide +kernel

theorem def179 {c : Wd} (T : Tp c) : DefAt c 179 "law" (fnBody 179) (fnNames 179) ["script"] where
  is := ⟨_, _, _, _, _, _, by rw [T.K]; rfl, rfl, rfl, by rw [T.K]; rfl, rfl, rfl, rfl, rfl, rfl, rfl, rfl, rfl, rfl, rfl, fun vals h => by
    obtain ⟨a, rfl⟩ := args1 h; rfl⟩
  own := by decide +kernel
  nodup := by decide +kernel
  nd := by decide +kernel

section
variable {c : Wd} {env : Env} {ρ ρ' ρc : Ro} {n : Nat}
theorem mem_here {p : Str × D} : p ∈ p :: ρ := List.mem_cons_self
theorem mem_there {p q : Str × D} (h : p ∈ ρ) : p ∈ q :: ρ := List.mem_cons_of_mem _ h
theorem mem_drop {y : Str} {d : D} {x : Str} (hx : (y != x) = true) (h : (y, d) ∈ ρ) : (y, d) ∈ dropN x ρ := List.mem_filter.mpr ⟨h, hx⟩
theorem EvJ.globInt {x : Str} {i : Int} {t : Tok} {pos : Pos} (h : (x, D.glob (.int i t)) ∈ ρ) (hd : (x == ("__debug__" : Str)) = false := by decide) : EvJ c env n ρ (.Name x pos) (.int i) := fun A s X q =>
  wpAny_mono (EvJ.name h hd A s X q) (fun v s' r => ⟨r.1, by obtain ⟨_, r⟩ := r; (first | refine r.eg ?_ | refine r.eb ?_ | refine r.en ?_ | refine r.e0 ?_ | refine r.el fun _ => ?_ | cases r); exact .int ..⟩) fun _ _ f => f
/-- the names of the text that a def reads -/
structure GlOk (c : Wd) (NM : List (Str × NameKind)) (GG : List (Str × Value)) : Prop where
  ok : ∀ p ∈ GG, NM.lookup p.1 = some .globalImplicit ∧ Gl c p.1 p.2
theorem GlOk.nil {NM : List (Str × NameKind)} : GlOk c NM [] := ⟨fun _ h => nomatch h⟩
theorem GlOk.cons {NM : List (Str × NameKind)} {x : Str} {v : Value} {GG : List (Str × Value)} (h : NM.lookup x = some .globalImplicit) (g : Gl c x v) (r : GlOk c NM GG) : GlOk c NM ((x, v) :: GG) :=
  ⟨fun p hp => (List.mem_cons.mp hp).elim (fun e => by cases e; exact ⟨h, g⟩) fun hp => r.ok p hp⟩
theorem ret_eq {d d' : D} (h : d = d') : FlowD.ret d = FlowD.ret d' := congrArg _ h
theorem tail_free {prog : Program} {w : World} {A : Around} {s : Shared} {value slice : Expr} {o i : Value} {T id : String} {E : Value → Shared → Prop} {Q : Value → Shared → Prop} (hT : s.TypeIs o T)
    (hl : typeLookup (.type T) "__getitem__" = pure (some (.builtin id))) (h : wpAny (model prog w) A (getItem o i) Q E s)
    (hs : subscripted slice false o i = operate [o, i] (getItem o i)) : wpAny (model prog w) A (subscriptTail value slice o i) Q E s := by
  unfold subscriptTail
  refine wpAny_bind ?_
  rw [getitemInPython_of_ne hT.not_modules]
  refine wpAny_bind (wpAny_specialOf hT hl ?_)
  have fin : wpAny (model prog w) A (subscripted slice false o i) (fun r s₃ => wpAny (model prog w) A (letTemporaryGo value o r >>= fun _ => pure r) Q E s₃) E s := by
    rw [hs]
    exact wpAny_operating (wpAny_mono h (fun r s₃ h₃ => wpAny_bind (wpAny_letTemporaryGo (wpAny_pure h₃))) fun _ _ x => x)
  first
    | exact wpAny_pure (wpAny_bind fin)
    | exact wpAny_bind (wpAny_pure (wpAny_bind fin))
    | exact wpAny_bind fin

theorem idx_listT {ds : List D} {v sl : Expr} {i : Int} {d : D} {pos : Pos} (hv : EvJ c env n ρ v (.list ds)) (hi : EvJ c env n ρ sl (.int i)) (h0 : 0 ≤ i) (hx : ds[i.toNat]? = some d) (hz : i < 2 ^ 63)
    (hs : ∀ a t, subscripted sl false (.ref a) (.int i t) = operate [.ref a, .int i t] (getItem (.ref a) (.int i t)) := by intro _ _; with_unfolding_all rfl) :
    EvJ c env n ρ (.Subscript v sl pos) d := fun A s X t => by
  refine Subscript_ (wpAny_mono (hv A s X t) (fun o s₁ q => wpAny_mono (hi A s₁ X (t.ext q.1)) (fun k s₂ q' => ?_) fun _ _ f => f.elim) fun _ _ f => f.elim)
  obtain ⟨e₁, r⟩ := q
  obtain ⟨e₂, r'⟩ := q'
  refine r'.el fun tk => ?_
  refine r.el fun a vs k ha hX rl => ?_
  obtain ⟨u, hu, ru⟩ := rl.get _ _ hx
  have hl : s₂.heap.IsList a vs.toArray := ⟨_, e₂.all _ _ ha, rfl, _, rfl⟩
  exact tail_free hl.typeIs slot_list_getitem.lookup (wpAny_getItem_list hl h0 hz (by simpa using hu) ⟨e₁.trans e₂, ru.ext0 e₂⟩) (hs _ _)
theorem idx_list_neg {ds : List D} {v sl : Expr} {i : Int} {d : D} {pos : Pos} (hv : EvJ c env n ρ v (.list ds)) (hi : EvJ c env n ρ sl (.int i)) (h0 : i < 0) (h1 : -(ds.length : Int) ≤ i) (hx : ds[(i + ds.length).toNat]? = some d) (hz : -(2 ^ 63) ≤ i)
    (hs : ∀ a t, subscripted sl false (.ref a) (.int i t) = operate [.ref a, .int i t] (getItem (.ref a) (.int i t)) := by intro _ _; with_unfolding_all rfl) :
    EvJ c env n ρ (.Subscript v sl pos) d := fun A s X t => by
  refine Subscript_ (wpAny_mono (hv A s X t) (fun o s₁ q => wpAny_mono (hi A s₁ X (t.ext q.1)) (fun k s₂ q' => ?_) fun _ _ f => f.elim) fun _ _ f => f.elim)
  obtain ⟨e₁, r⟩ := q
  obtain ⟨e₂, r'⟩ := q'
  refine r'.el fun tk => ?_
  refine r.el fun a vs k ha hX rl => ?_
  obtain ⟨u, hu, ru⟩ := rl.get _ _ hx
  have hl : s₂.heap.IsList a vs.toArray := ⟨_, e₂.all _ _ ha, rfl, _, rfl⟩
  have hle : vs.toArray.size = ds.length := by simp [rl.length]
  exact tail_free hl.typeIs slot_list_getitem.lookup (wpAny_getItem_list_neg hl (by omega) (by rw [hle]; omega) (by omega) (by rw [hle]; simpa using hu) ⟨e₁.trans e₂, ru.ext0 e₂⟩) (hs _ _)
theorem idx_tupT {ds : List D} {v sl : Expr} {i : Int} {d : D} {pos : Pos} (hv : EvJ c env n ρ v (.tup ds)) (hi : EvJ c env n ρ sl (.int i)) (h0 : 0 ≤ i) (hx : ds[i.toNat]? = some d) (hz : i < 2 ^ 63)
    (hs : ∀ a t, subscripted sl false (.ref a) (.int i t) = operate [.ref a, .int i t] (getItem (.ref a) (.int i t)) := by intro _ _; with_unfolding_all rfl) :
    EvJ c env n ρ (.Subscript v sl pos) d := fun A s X t => by
  refine Subscript_ (wpAny_mono (hv A s X t) (fun o s₁ q => wpAny_mono (hi A s₁ X (t.ext q.1)) (fun k s₂ q' => ?_) fun _ _ f => f.elim) fun _ _ f => f.elim)
  obtain ⟨e₁, r⟩ := q
  obtain ⟨e₂, r'⟩ := q'
  refine r'.el fun tk => ?_
  refine r.el fun a vs k ha hX rl => ?_
  obtain ⟨u, hu, ru⟩ := rl.get _ _ hx
  have hl : IsTup s₂.heap a vs.toArray := ⟨_, e₂.all _ _ ha, rfl, _, rfl⟩
  have hlt : i.toNat < ds.length := (List.getElem?_eq_some_iff.mp hx).1
  have hn : i < ((vs.toArray.size : Nat) : Int) := by rw [List.size_toArray, rl.length]; omega
  exact tail_free hl.typeIs slot_tuple_getitem.lookup (getItem_tuple hl (by omega) hz (seqIndex_of h0 hn) (by simpa using hu) ⟨e₁.trans e₂, ru.ext0 e₂⟩) (hs _ _)

/-- what a comprehension may see of the frame around it -/
structure Sees (c : Wd) (env : Env) (names : List (Str × NameKind)) (ρ ρc : Ro) : Prop where
  ok : ∀ p ∈ ρc, SeeOk c env ρ names p
theorem Sees.nil {names : List (Str × NameKind)} : Sees c env names ρ [] := ⟨fun _ h => nomatch h⟩
theorem Sees.cons {names NM NO : List (Str × NameKind)} {x : Str} {d : D} (F : Fenv env NM NO) (m : (x, d) ∈ ρ) (h : names.lookup x = some .free ∨ (names.lookup x = some .globalImplicit ∧ NM.lookup x = some .globalImplicit)) (r : Sees c env names ρ ρc) : Sees c env names ρ ((x, d) :: ρc) :=
  ⟨fun p hp => (List.mem_cons.mp hp).elim (fun e => by cases e; exact h.elim (fun q => .inl ⟨m, q⟩) fun q => .inr ⟨q.1, .inl ⟨m, F.kind q.2⟩⟩) fun hp => r.ok p hp⟩
theorem Sees.glob {names : List (Str × NameKind)} {x : Str} {v : Value} (h : names.lookup x = some .globalImplicit) (g : Gl c x v) (r : Sees c env names ρ ρc) : Sees c env names ρ ((x, .glob v) :: ρc) :=
  ⟨fun p hp => (List.mem_cons.mp hp).elim (fun e => by cases e; exact .inr ⟨h, .inr ⟨v, rfl, g⟩⟩) fun hp => r.ok p hp⟩

theorem sub_nil : ∀ p ∈ ([] : Ro), p ∈ ρ := fun _ h => nomatch h
theorem sub_cons {q : Str × D} (h : q ∈ ρ) (r : ∀ p ∈ ρ', p ∈ ρ) : ∀ p ∈ q :: ρ', p ∈ ρ := fun p hp => (List.mem_cons.mp hp).elim (fun e => e ▸ h) (r p)
theorem isDef_of (T : Tp c) {a : Addr} {o : Obj} {fd : FuncData} (h : (hd.heap_39 c.w.params).lookup a = some o) (h' : o.data = .func fd) : IsDef c a := ⟨o, fd, by rw [T.K]; exact h, h'⟩
end
end Mine
namespace Mine
local macro_rules | `(tactic| walk_at "mem") => `(tactic| first | with_reducible exact mem_here | (with_reducible refine' mem_drop ?a ?b; (case a => (first | decide | rfl)); (case b => walk_at "mem")) | (with_reducible refine' mem_there ?a; (case a => walk_at "mem")))
local macro_rules | `(tactic| walk_at "sz") => `(tactic| first | with_reducible assumption | decide | exact Nat.le_of_ble_eq_true rfl | (simp; done) | (simp [sizeLine]; done) | omega | (simp [sizeLine]; omega))
local macro_rules | `(tactic| walk_at "evl") => `(tactic| first | with_reducible exact EvL.nil | (refine' EvL.cons ?a ?b; (case a => walk_at "ev"); (case b => walk_at "evl")))
local macro_rules | `(tactic| walk_at "bin") => `(tactic| with_reducible first | exact bin_add | exact bin_sub | exact bin_mod (by walk_at "sz") | exact bin_div (by walk_at "sz") (by walk_at "sz") | exact bin_mul (by first | assumption | exact IntMulOk.of_right (by decide +kernel)) | exact bin_cat (by walk_at "sz"))
local macro_rules | `(tactic| walk_at "cmp") => `(tactic| with_reducible first | assumption | exact cmp_eq_int | exact cmp_ne_int | exact cmp_eq_str | exact cmp_ne_str | exact cmp_lt | exact cmp_gt | exact cmp_ge | exact cmp_in_dict)
local macro_rules | `(tactic| walk_at "fn") => `(tactic| with_reducible first | assumption | exact fn_sum_list | exact fn_sum_tup | exact fn_min2 | exact fn_max2 | exact fn_min_pair | exact fn_len_list (by walk_at "sz") | exact fn_lower (by walk_at "sz") | exact fn_find | exact fn_dict_get)
local macro_rules | `(tactic| walk_at "def") => `(tactic| exact isDef_of (by assumption) rfl rfl)
local macro_rules | `(tactic| walk_at "ev") => `(tactic| first
  | (with_reducible first | assumption | exact EvJ.int | exact EvJ.str | exact EvJ.none | exact EvJ.bool)
  | ((with_reducible show EvJ _ _ _ _ (.Name _ _) _); refine' EvJ.name ?a; (case a => walk_at "mem"))
  | ((with_reducible show EvJ _ _ _ _ (.UnaryOp _ _ _) _); refine' EvJ.neg ?a; (case a => walk_at "ev"))
  | ((with_reducible show EvJ _ _ _ _ (.Tuple _ _ _) _); refine' EvJ.tuple (hz := ?b) ?a; (case a => walk_at "evl"); (case b => walk_at "sz"))
  | ((with_reducible show EvJ _ _ _ _ (.List _ _) _); refine' EvJ.list (hz := ?b) ?a; (case a => walk_at "evl"); (case b => walk_at "sz"))
  | ((with_reducible show EvJ _ _ _ _ (.Compare _ _ _ _) _); refine' EvJ.cmp ?a ?b ?d; (case a => walk_at "ev"); (case b => walk_at "ev"); (case d => walk_at "cmp"))
  | ((with_reducible show EvJ _ _ _ _ (.BinOp _ _ _ _) _); refine' EvJ.bin ?a ?b ?d; (case a => walk_at "ev"); (case b => walk_at "ev"); (case d => walk_at "bin"))
  | ((with_reducible show EvJ _ _ _ _ (.Call (.Name _ _) _ _ _) _); refine' EvJ.callb ?a ?b ?d; (case a => walk_at "mem"); (case b => walk_at "evl"); (case d => walk_at "fn"))
  | ((with_reducible show EvJ _ _ _ _ (.Call (.Name _ _) _ _ _) _); refine' EvJ.call ?a ?e ?b ?d; (case a => walk_at "mem"); (case e => walk_at "def"); (case b => walk_at "evl"); (case d => walk_at "fn"))
  | ((with_reducible show EvJ _ _ _ _ (.Call (.Attribute _ _ _) _ _ _) _); refine' ev_meth ?a ?b ?d ?e; (case a => walk_at "ev"); (case b => walk_at "evl"); (case d => with_reducible first | exact getM_lower | exact getM_find); (case e => walk_at "fn"))
  | ((with_reducible show EvJ _ _ _ _ (.Subscript _ (.Slice _ _ _ _) _) _); refine' slice_str_from ?a ?b ?d; (case a => walk_at "ev"); (case b => walk_at "ev"); (case d => walk_at "sz"))
  | ((with_reducible show EvJ _ _ _ _ (.Subscript _ _ _) _); refine' idx_tupT ?a ?b ?h0 ?hx ?hz; (case a => walk_at "ev"); (case b => walk_at "ev"); (case h0 => walk_at "sz"); (case hx => first | with_reducible assumption | rfl); (case hz => walk_at "sz"))
  | ((with_reducible show EvJ _ _ _ _ (.Subscript _ _ _) _); refine' idx_listT ?a ?b ?h0 ?hx ?hz; (case a => walk_at "ev"); (case b => walk_at "ev"); (case h0 => walk_at "sz"); (case hx => first | with_reducible assumption | rfl); (case hz => walk_at "sz")))
local macro_rules | `(tactic| walk_at "tst") => `(tactic| first
  | with_reducible assumption
  | ((with_reducible show TestJ _ _ _ _ (.Compare _ _ _ _) _); refine' TestJ.cmp ?a ?b ?d; (case a => walk_at "ev"); (case b => walk_at "ev"); (case d => walk_at "cmp"))
  | ((with_reducible show TestJ _ _ _ _ (.BoolOp _ _ _) _); refine' TestJ.bool ?a; (case a => walk_at "all"))
  | (refine' TestJ.val ?a; (case a => walk_at "ev")))
local macro_rules | `(tactic| walk_at "all") => `(tactic| with_reducible first
  | exact AllJ.and_nil | exact AllJ.or_nil
  | (refine' AllJ.and_cons ?a ?b; (case a => walk_at "tst"); (case b => intro _; walk_at "all"))
  | (refine' AllJ.or_cons ?a ?b; (case a => walk_at "tst"); (case b => intro _; walk_at "all")))
local macro_rules | `(tactic| walk_at "own") => `(tactic| exact Fenv.own (by assumption) (by decide +kernel))
local macro_rules | `(tactic| walk_at "tp") => `(tactic| first | exact Tp.main (by assumption) rfl | exact Tp.built (by assumption) rfl rfl (by decide))
local macro_rules | `(tactic| walk_at "gl") => `(tactic| first | exact GlOk.nil | exact GlOk.cons (by decide +kernel) (by walk_at "tp") (by walk_at "gl"))
local macro_rules | `(tactic| walk_at "sees") => `(tactic| first | with_reducible exact Sees.nil | (refine' Sees.cons (by assumption) ?a ?b ?d; (case a => walk_at "mem"); (case b => decide +kernel); (case d => walk_at "sees")) | (refine' Sees.glob ?a ?b ?d; (case a => decide +kernel); (case b => walk_at "tp"); (case d => walk_at "sees")))
local macro_rules | `(tactic| walk_at "subs") => `(tactic| first | exact sub_nil | (refine' sub_cons ?a ?b; (case a => walk_at "mem"); (case b => walk_at "subs")))
section
variable {c : Wd} {env : Env} {ρ ρ' ρc : Ro} {n : Nat}

noncomputable def subP (a b : Str) : Int := if a == b then 0 else if Txt.lower a == Txt.lower b then 1 else 2

theorem fn_sub (T : Tp c) {a b : Str} (ha : a.length ≤ 5592405) (hb : b.length ≤ 5592405) : FnJ c (.ref 38) (n + 1) [.str a, .str b] (.int (subP a b)) := by
  obtain ⟨t1, t2, G⟩ : ∃ t1 t2, GlOk c (fnNames 38) [("_CASE_COST", .int 1 t1), ("_MOVE_COST", .int 2 t2)] := ⟨_, _, by walk_at "gl"⟩
  refine FnJ.of (def38 T) _ G.ok rfl fun env F => ?_
  show ExJ c env n [("ch_a", .str a), ("ch_b", .str b), ("_CASE_COST", .glob (.int 1 t1)), ("_MOVE_COST", .glob (.int 2 t2))] (fnBody 38) _
  conv => arg 5; whnf
  refine ExJ.ifret (d := .int 0) (b := a == b) (by walk_at "tst") (fun h => ⟨by walk_at "ev", ret_eq (by simp [subP, h])⟩) fun h => ?_
  refine ExJ.ifret (d := .int 1) (b := Txt.lower a == Txt.lower b) (by walk_at "tst") (fun h' => ⟨EvJ.globInt (by walk_at "mem"), ret_eq (by simp [subP, h, h'])⟩) fun h' => ?_
  exact ExJ.ret (d := .int 2) (EvJ.globInt (by walk_at "mem")) (ret_eq (by simp [subP, h, h']))
end
section
variable {c : Wd} {env : Env} {ρ ρ' ρc : Ro} {n : Nat} {R : FlowD → Prop}

theorem Ex1.assignT {elts : List Expr} {k : Nat} {tp pos : Pos} {e : Expr} {d : D} (h : EvJ c env n ρ e d) (ha : AsgJ c env n ρ (.Tuple elts k tp) d ρ')
    (hs : swapsWithSole [.Tuple elts k tp] e pos.line env = pure false := by rfl) (hw : swappedStores [.Tuple elts k tp] e env = pure none := by rfl) :
    Ex1 c env n ρ (.Assign [.Tuple elts k tp] e pos) (· = .next ρ') := fun A s X t => by
  refine Assign_Tuple (wpAny_mono (h A s X t) (fun v s₁ q => ?_) fun _ _ f => f) hs hw
  exact wpAny_mono (ha A s₁ X v (t.ext q.1) q.2) (fun _ s₂ q' => ⟨q.1.no.trans q'.1, _, rfl, rfl, q'.2⟩) fun _ _ f => f

/-! is_HDN -/
noncomputable def chAt (x : Str) (i : Int) : Option Nat := (seqIndex? i x.length).bind (x.cps[·]?)
noncomputable def hdnP (x : Str) : Option Bool := match reFinds x, chAt x 0, chAt x (-1) with
  | some b, some c0, some c1 => if x.cps.size < 1000 then some (!b && !(x == "") && !((⟨#[c0]⟩ : Str) == "." || (⟨#[c1]⟩ : Str) == ".")) else none
  | _, _, _ => none

theorem fn_hdn (T : Tp c) (PT : PatAt c 43) {x : Str} {r : Bool} (h : hdnP x = some r) : FnJ c (.ref 50) (n + 1) [.str x] (.bool r) := by
  have G : GlOk c (fnNames 50) [("IPV4_RE", .ref 43)] := by walk_at "gl"
  unfold hdnP at h
  split at h
  case h_2 => cases h
  rename_i b c0 c1 hb h0 h1
  split at h
  case isFalse => cases h
  rename_i hz
  have h := Option.some.inj h
  refine FnJ.of (def50 T) _ G.ok rfl fun env F => ?_
  show ExJ c env n [("text", .str x), ("IPV4_RE", .glob (.ref 43))] (fnBody 50) _
  conv => arg 5; whnf
  refine ExJ.ifret (d := .bool false) (b := b) (TestJ.search (by walk_at "mem") PT (by walk_at "ev") hb hz) (fun q => ⟨EvJ.bool, ret_eq (by simp [← h, q])⟩) fun q => ?_
  refine ExJ.ifret (d := .bool false) (b := x == "") (by walk_at "tst") (fun q => ⟨EvJ.bool, ret_eq (by simp [← h, q])⟩) fun q' => ?_
  refine ExJ.ifret (d := .bool false) (b := (⟨#[c0]⟩ : Str) == "." || ((⟨#[c1]⟩ : Str) == "." || false)) ?_ (fun q => ⟨EvJ.bool, ret_eq (by rw [Bool.or_false] at q; simp [← h, q])⟩) fun q'' => ?_
  · refine TestJ.bool (AllJ.or_cons (TestJ.cmp (idx_str (by walk_at "ev") (by walk_at "ev") (by decide) h0) (by walk_at "ev") cmp_eq_str) fun _ => AllJ.or_cons (TestJ.cmp (idx_str (by walk_at "ev") (by walk_at "ev") (by decide) h1) (by walk_at "ev") cmp_eq_str) fun _ => AllJ.or_nil)
  · exact ExJ.ret EvJ.bool (ret_eq (by rw [Bool.or_false] at q''; simp [← h, q, q', q'']))

/-! reach -/
noncomputable def reachP (x : Str) : Option Str := match hdnP x with
  | none => none
  | some r => if x.length < 1000 then (if 0 ≤ Txt.find x "." then
      (if (Txt.slice x (some (Txt.find x "." + 1)) none).length < 1000 then
        (if r && (decide (0 ≤ Txt.find (Txt.slice x (some (Txt.find x "." + 1)) none) ".") || Txt.slice x (some (Txt.find x "." + 1)) none == "local") then some ("." ++ Txt.slice x (some (Txt.find x "." + 1)) none) else some x) else none)
      else some x) else none

theorem fn_reach (T : Tp c) (PT : PatAt c 43) {x y : Str} (h : reachP x = some y) : FnJ c (.ref 57) (n + 2) [.str x] (.str y) := by
  have G : GlOk c (fnNames 57) [("is_HDN", .ref 50)] := by walk_at "gl"
  unfold reachP at h
  split at h
  case h_1 => cases h
  rename_i r hr
  split at h
  case isFalse => cases h
  rename_i hz
  have hf : FnJ c (.ref 50) (n + 1) [.str x] (.bool r) := fn_hdn T PT hr
  refine FnJ.of (def57 T) _ G.ok rfl fun env F => ?_
  show ExJ c env (n + 1) [("h", .str x), ("is_HDN", .glob (.ref 50))] (fnBody 57) _
  conv => arg 5; whnf
  refine ExJ.assign (d := .int (Txt.find x ".")) (by walk_at "ev") (by walk_at "own") ?_
  refine ExJ.seq (R' := fun q => (∃ ρ', q = .next ρ' ∧ (("h" : Str), D.str x) ∈ ρ' ∧ y = x) ∨ q = .ret (.str y)) (Ex1.if (b := decide (0 ≤ Txt.find x ".")) (by walk_at "tst") (fun q => ?_) fun q => ExJ.nil (.inl ⟨_, rfl, by walk_at "mem", ?_⟩)) (fun ρ' q => ?_) (fun d q => ?_)
  · have q := of_decide_eq_true q
    rw [if_pos q] at h
    split at h
    case isFalse => cases h
    rename_i hz'
    refine ExJ.assign (d := .str (Txt.slice x (some (Txt.find x "." + 1)) none)) (by walk_at "ev") (by walk_at "own") ?_
    generalize Txt.slice x (some (Txt.find x "." + 1)) none = b at h hz' ⊢
    refine ExJ.assign (d := .int (Txt.find b ".")) (by walk_at "ev") (by walk_at "own") ?_
    refine ExJ.last (Ex1.if (b := r && ((decide (0 ≤ Txt.find b ".") || (b == "local" || false)) && true)) ?_ (fun q => ?_) fun q => ExJ.nil (.inl ⟨_, rfl, by walk_at "mem", ?_⟩))
    · refine TestJ.bool (AllJ.and_cons (TestJ.val (by walk_at "ev")) fun _ => AllJ.and_cons (TestJ.bool (AllJ.or_cons (by walk_at "tst") fun _ => AllJ.or_cons (by walk_at "tst") fun _ => AllJ.or_nil)) fun _ => AllJ.and_nil)
    · rw [Bool.or_false, Bool.and_true] at q
      rw [if_pos q] at h
      refine ExJ.ret (d := .str ("." ++ b)) ?_ (.inr (by rw [Option.some.inj h]))
      refine EvJ.bin (by walk_at "ev") (by walk_at "ev") (bin_cat ?_)
      have : Str.length "." = 1 := by decide
      simp [sizeLine, this]; omega
    · rw [Bool.or_false, Bool.and_true] at q
      rw [if_neg (by simpa using q)] at h
      exact (Option.some.inj h).symm
  · rw [if_neg (by simpa using q)] at h; exact (Option.some.inj h).symm
  · rcases q with ⟨ρ'', e, hm, rfl⟩ | q
    · cases e; exact ExJ.ret (EvJ.name hm) rfl
    · cases q
  · rcases q with ⟨ρ'', e, hm, rfl⟩ | q
    · cases e
    · exact q
end
section
variable {c : Wd} {env : Env} {ρ ρ' ρc : Ro} {n : Nat} {R : FlowD → Prop}

noncomputable def oD : Option Str → D
  | none => .none
  | some x => .str x
noncomputable def locP (l e : Option Str) : Str := match e with
  | none => l.getD "C"
  | some e => l.getD "C" ++ "." ++ e
theorem is_none_o {l : Option Str} : CmpD c n .Is (oD l) .none l.isNone := cmp_is_none fun X h v r => by
  cases l <;> cases r <;> rfl

theorem fn_loc (T : Tp c) {l e : Option Str} (hl : (l.getD "C").length < 100) (he : ∀ x, e = some x → x.length < 100) : FnJ c (.ref 64) (n + 1) [.tup [oD l, oD e]] (.str (locP l e)) := by
  refine FnJ.of (def64 T) [] (fun _ h => nomatch h) rfl fun env F => ?_
  show ExJ c env n [("localetuple", .tup [oD l, oD e])] (fnBody 64) _
  conv => arg 5; whnf
  refine ExJ.last (Ex1.try ?_)
  refine ExJ.one (Ex1.assignT (by walk_at "ev") (AsgJ.tup (StoresJ.cons (by walk_at "own") (StoresJ.cons (by walk_at "own") StoresJ.nil)))) ?_
  refine ExJ.seq (R' := fun r => ∃ ρ', r = .next ρ' ∧ (("language" : Str), D.str (l.getD "C")) ∈ ρ' ∧ (("encoding" : Str), oD e) ∈ ρ') (Ex1.if (b := l.isNone) (TestJ.cmp (by walk_at "ev") (by walk_at "ev") is_none_o) (fun q => ?_) fun q => ?_) (fun ρ' q => ?_) (fun d q => ?_)
  · cases l with
    | some x => cases q
    | none => exact ExJ.assign (d := .str "C") (by walk_at "ev") (by walk_at "own") (ExJ.nil ⟨_, rfl, mem_here, by walk_at "mem"⟩)
  · cases l with
    | none => cases q
    | some x => exact ExJ.nil ⟨_, rfl, mem_there (mem_drop (by decide) mem_here), by walk_at "mem"⟩
  · obtain ⟨ρ'', q, m1, m2⟩ := q
    cases q
    refine ExJ.last (Ex1.if (b := e.isNone) (TestJ.cmp (EvJ.name m2) (by walk_at "ev") is_none_o) (fun q => ?_) fun q => ?_)
    · cases e with
      | some x => cases q
      | none => exact ExJ.ret (EvJ.name m1) rfl
    · cases e with
      | none => cases q
      | some x =>
        have hx := he x rfl
        have h1 : Str.length "." = 1 := by decide
        refine ExJ.ret (d := .str (l.getD "C" ++ "." ++ x)) (EvJ.bin (EvJ.bin (EvJ.name m1) (by walk_at "ev") (bin_cat ?_)) (EvJ.name (d := .str x) m2) (bin_cat ?_)) rfl
        · rw [h1]; simp [sizeLine]; omega
        · rw [Str.length_append, h1]; simp [sizeLine]; omega
  · obtain ⟨_, q, _⟩ := q; cases q
end
section
variable {c : Wd} {env : Env} {ρ ρ' ρc : Ro} {n : Nat} {R : FlowD → Prop}

/-! _law_way -/
noncomputable def Chain (y : Str) : List Str → Prop
  | [] => reachP y = some y
  | z :: r => (∃ u, reachP y = some u ∧ u ≠ y ∧ Txt.slice u (some 1) none = z ∧ u.length < 1000) ∧ Chain z r
noncomputable def chainB (y : Str) : List Str → Bool
  | [] => decide (reachP y = some y)
  | z :: r => (match reachP y with
    | some u => decide (u ≠ y ∧ Txt.slice u (some 1) none = z ∧ u.length < 1000)
    | none => false) && chainB z r
theorem chain_of : ∀ {r : List Str} {y : Str}, chainB y r = true → Chain y r
  | [], y, h => (of_decide_eq_true h : reachP y = some y)
  | z :: r, y, h => by
    unfold chainB at h
    rw [Bool.and_eq_true] at h
    refine ⟨?_, chain_of h.2⟩
    have h := h.1
    split at h
    · rename_i u hu; exact ⟨u, hu, of_decide_eq_true h⟩
    · cases h

theorem last_at {α : Type} {l : List α} {x : α} : (l ++ [x])[((-1 : Int) + ((l ++ [x]).length : Nat)).toNat]? = some x := by
  have : ((-1 : Int) + ((l ++ [x]).length : Nat)).toNat = l.length := by simp; omega
  rw [this]; simp
theorem Fenv.quiet {NM NO : List (Str × NameKind)} (f : Fenv env NM NO) : interactive env = false := by
  unfold interactive; rw [f.plain]; rfl

theorem fn_way (T : Tp c) (PT : PatAt c 43) {i : Int} {top y : Str} {l1 l2 : Option Str} {W : List Str} (h0 : 0 ≤ i) (hi : i < 12)
    (hq : ([.none, .str "a", .str "b"] : List D)[(i / 4).toNat]? = some (oD l1)) (hr : ([.none, .str "c", .str "A", .str "a"] : List D)[(i % 4).toNat]? = some (oD l2))
    (hl : top.length < 100 ∧ (l1.getD "C").length < 100 ∧ (l2.getD "C").length < 100 ∧ (locP l1 (some top)).length < 100) (hy : y = locP l2 (some (locP l1 (some top)))) (hc : Chain y W) (hW : W.length < 100) :
    FnJ c (.ref 118) (n + 3) [.int i, .str top] (.list ((y :: W).map .str)) := by
  have G : GlOk c (fnNames 118) [("_build_localename", .ref 64), ("reach", .ref 57)] := by walk_at "gl"
  have f1 : FnJ c (.ref 64) (n + 2) [.tup [.str top, .none]] (.str top) := fn_loc (n := n + 1) T (l := some top) (e := none) hl.1 (fun x h => nomatch h)
  have f2 : FnJ c (.ref 64) (n + 2) [.tup [oD l1, .str top]] (.str (locP l1 (some top))) := fn_loc (n := n + 1) T (l := l1) (e := some top) hl.2.1 (fun x h => by cases h; exact hl.1)
  have f3 : FnJ c (.ref 64) (n + 2) [.tup [oD l2, .str (locP l1 (some top))]] (.str y) := by rw [hy]; exact fn_loc (n := n + 1) T (l := l2) (e := some (locP l1 (some top))) hl.2.2.1 (fun x h => by cases h; exact hl.2.2.2)
  have f4 : ∀ x u, reachP x = some u → FnJ c (.ref 57) (n + 2) [.str x] (.str u) := fun x u h => fn_reach T PT h
  clear hy
  refine FnJ.of (def118 T) _ G.ok rfl fun env F => ?_
  show ExJ c env (n + 2) [("number", .int i), ("top", .str top), ("_build_localename", .glob (.ref 64)), ("reach", .glob (.ref 57))] (fnBody 118) _
  conv => arg 5; whnf
  refine ExJ.assign (d := .str top) (by walk_at "ev") (by walk_at "own") ?_
  refine ExJ.assign (d := .str (locP l1 (some top))) (by walk_at "ev") (by walk_at "own") ?_
  refine ExJ.assign (d := .str y) (by walk_at "ev") (by walk_at "own") ?_
  obtain ⟨u, hu⟩ : ∃ u, reachP y = some u := by
    cases W with
    | nil => exact ⟨_, hc⟩
    | cons z r => obtain ⟨⟨u, hu, _⟩, _⟩ := hc; exact ⟨u, hu⟩
  have f4y := f4 y u hu
  refine ExJ.ofZ (ExZ.ownList (x := "way") (ds := [.str y]) (R' := (· = .ret (.list ((y :: W).map .str)))) (by walk_at "evl") (by walk_at "own") ?_ (fun d q => by cases q; rfl) (fun _ _ q => nomatch q) (hz := by walk_at "sz"))
  refine ExO.assign (d' := .str u) (by walk_at "ev") (.str _) (by walk_at "own") (by decide) ?_
  refine ExO.seq (R' := fun r => ∃ ρ', r = .next ρ' (.list ((y :: W).map .str))) ?_ (fun ρ' d' q => ?_) (fun d q => ?_)
  · refine Ex1O.while (k₀ := W.length) (fun k ρ dd => ∃ (dn : List Str) (x : Str) (r : List Str) (u : Str), k = r.length ∧ dn ++ x :: r = y :: W ∧ dd = .list (dn.map .str ++ [.str x]) ∧ Chain x r ∧ reachP x = some u ∧ (("up" : Str), D.str u) ∈ ρ ∧ (("reach" : Str), D.glob (.ref 57)) ∈ ρ)
      ⟨[], y, W, u, rfl, rfl, rfl, hc, hu, by walk_at "mem", by walk_at "mem"⟩ ?_
    rintro k ρi dd ⟨dn, x, r, u, rfl, hW', rfl, hc, hu, m1, m2⟩
    have hlen : dn.length + r.length + 1 = W.length + 1 := by have := congrArg List.length hW'; simp at this; omega
    refine ⟨u != x, TestJ.cmp (EvJ.name (mem_there m1)) (idx_list_neg (d := .str x) (ds := dn.map .str ++ [.str x]) (by walk_at "ev") (by walk_at "ev") (by decide) (by simp; omega) last_at (by decide)) cmp_ne_str, fun hb => ?_, fun hb => ?_⟩
    · cases r with
      | nil => simp [show u = x from by have : reachP x = some x := hc; rw [this] at hu; exact (Option.some.inj hu).symm] at hb
      | cons z r =>
        obtain ⟨⟨u', hu', hne, hz, hul⟩, hc'⟩ := hc
        rw [hu] at hu'; cases hu'
        refine ExO.one (Ex1O.append (d' := .str z) (by rw [← hz]; exact slice_str_from (EvJ.name (mem_there m1)) (by walk_at "ev") (by simp [sizeLine]; omega)) (.str _) (by simp [sizeLine] at hlen ⊢; omega) (hint := F.quiet)) ?_
        obtain ⟨v, hv⟩ : ∃ v, reachP z = some v := by
          cases r with
          | nil => exact ⟨_, hc'⟩
          | cons z r => obtain ⟨⟨u, hu, _⟩, _⟩ := hc'; exact ⟨u, hu⟩
        have f4z := f4 z v hv
        refine ExO.assign (d' := .str v) ?_ (.str _) (by walk_at "own") (by decide) (ExO.nil ⟨r.length, by simp, dn ++ [x], z, r, v, rfl, by simpa using hW', by simp, hc', hv, mem_here, mem_there (mem_drop (by decide) m2)⟩)
        refine EvJ.call (mem_there m2) (by walk_at "def") (EvL.cons (idx_list_neg (d := .str z) (ds := dn.map .str ++ [.str x] ++ [.str z]) (by walk_at "ev") (by walk_at "ev") (by decide) (by simp; omega) last_at (by decide)) EvL.nil) f4z
    · cases r with
      | nil => exact ⟨ρi, by rw [← hW']; simp⟩
      | cons z r =>
        obtain ⟨⟨u', hu', hne, _⟩, _⟩ := hc
        rw [hu] at hu'; cases hu'
        simp [hne] at hb
  · obtain ⟨ρ'', q⟩ := q; cases q
    exact ExO.ret (by walk_at "ev") rfl
  · obtain ⟨_, q⟩ := q; cases q
end
section
variable {c : Wd} {env : Env} {ρ ρ' ρc : Ro} {n : Nat} {R : FlowD → Prop}

/-! _law_plain_way -/
noncomputable def secP (a : Nat) (top : Str) : Str := (⟨#[a]⟩ : Str) ++ "." ++ top
noncomputable def plainP (a b : Nat) (top : Str) : List Str := [secP b (secP a top)] ++ (if top != "7" then [secP a top] else []) ++ (if top == "local" then [top] else [])

theorem fn_plain (T : Tp c) {i : Int} {top : Str} {a b : Nat} (hi : 0 ≤ i ∧ i < 12) (hq : (seqIndex? (i / 4) (Str.length "Cab")).bind ((Str.cps "Cab")[·]?) = some a) (hr : (seqIndex? (i % 4) (Str.length "CcAa")).bind ((Str.cps "CcAa")[·]?) = some b)
    (hl : top.length < 100) : FnJ c (.ref 125) (n + 1) [.int i, .str top] (.list ((plainP a b top).map .str)) := by
  refine FnJ.of (def125 T) [] (fun _ h => nomatch h) rfl fun env F => ?_
  show ExJ c env n [("number", .int i), ("top", .str top)] (fnBody 125) _
  conv => arg 5; whnf
  have h1 : Str.length "." = 1 := by decide
  have l1 : ∀ x : Nat, Str.length ⟨#[x]⟩ = 1 := fun _ => rfl
  refine ExJ.assign (d := .str (secP a top)) (EvJ.bin (EvJ.bin (idx_str (by walk_at "ev") (by walk_at "ev") (by omega) hq) (by walk_at "ev") (bin_cat ?_)) (by walk_at "ev") (bin_cat ?_)) (by walk_at "own") ?_
  · rw [h1, l1]; decide
  · rw [Str.length_append, h1, l1]; simp [sizeLine]; omega
  have ls : (secP a top).length = 2 + top.length := by simp only [secP, Str.length_append, h1, l1]
  generalize hs : secP a top = s at ls ⊢
  refine ExJ.ofZ (ExZ.ownList (x := "way") (ds := [.str (secP b s)]) (R' := (· = .ret (.list ((plainP a b top).map .str)))) (EvL.cons (EvJ.bin (EvJ.bin (idx_str (by walk_at "ev") (by walk_at "ev") (by omega) hr) (by walk_at "ev") (bin_cat ?_)) (by walk_at "ev") (bin_cat ?_)) EvL.nil) (by walk_at "own") ?_ (fun d q => by cases q; rfl) (fun _ _ q => nomatch q) (hz := by walk_at "sz"))
  · rw [h1, l1]; decide
  · rw [Str.length_append, h1, l1]; simp [sizeLine]; omega
  refine ExO.seq (R' := fun r => ∃ ρ', r = .next ρ' (.list (([secP b s] ++ (if top != "7" then [s] else [])).map .str)) ∧ (("top" : Str), D.str top) ∈ ρ') (Ex1O.if (b := top != "7") (by walk_at "tst") (fun q => ?_) fun q => ExO.nil ⟨_, congrArg (FlowO.next _) (by simp [q]), by walk_at "mem"⟩) (fun ρ' d' q => ?_) (fun d q => ?_)
  · rw [q]
    refine ExO.last (Ex1O.mono (Ex1O.append (d' := .str s) (by walk_at "ev") (.str _) (by walk_at "sz") (hint := F.quiet)) fun r e => ⟨_, e.trans rfl, by walk_at "mem"⟩)
  · obtain ⟨ρ₁, q, m⟩ := q
    cases q
    refine ExO.seq (R' := fun r => ∃ ρ', r = .next ρ' (.list ((plainP a b top).map .str))) (Ex1O.if (b := top == "local") (TestJ.cmp (EvJ.name (mem_there m)) (by walk_at "ev") cmp_eq_str) (fun q => ?_) fun q => ExO.nil ⟨_, congrArg (FlowO.next _) (by simp [plainP, q, hs])⟩) (fun ρ' d' q => ?_) (fun d q => ?_)
    · refine ExO.last (Ex1O.mono (Ex1O.append (d' := .str top) (EvJ.name (mem_there m)) (.str _) ?_ (hint := F.quiet)) fun r e => ⟨_, e.trans (congrArg (FlowO.next _) (by simp [plainP, q, hs]))⟩)
      split <;> simp [sizeLine]
    · obtain ⟨ρ'', q⟩ := q; cases q
      exact ExO.ret (by walk_at "ev") rfl
    · obtain ⟨_, q⟩ := q; cases q
  · obtain ⟨_, q, _⟩ := q; cases q
end
section
variable {c : Wd} {env : Env} {ρ ρ' ρc : Ro} {n : Nat} {R : FlowD → Prop}

theorem ev_compL {α : Type} {elt : Expr} {g : Comprehension} {gs : List Comprehension} {scope : Scope} {pos : Pos} {NM NO : List (Str × NameKind)} (F : Fenv env NM NO) (ρc : Ro) (L : List α) (φ : α → D) (ψ : D → α) (o : α → List D) (out : List D)
    (hc : Sees c env scope.names ρ ρc) (hI : IterJ c env n ρ g.iter g.target (L.map φ))
    (items : ∀ env', Fenv env' (capNames scope.names) scope.names → ∀ a ∈ L, ItemJ c env' n ρc (listK c elt (g :: gs) scope pos env') g 0 (φ a) (o a))
    (hψ : ∀ a ∈ L, ψ (φ a) = a) (ho : (L.map o).flatten = out) (hz : out.length ≤ sizeLine)
    (hasy : ∀ g' ∈ g :: gs, g'.is_async = 0) (hk : scope.kind = .function) (nd : (scope.names.map (·.1)).Nodup) (hfree : ∀ p ∈ scope.names, p.2 = .free → NM.lookup p.1 = some .cell)
    (hs : ∀ x, foldedSetIterable g.iter env x = pure x) :
    EvJ c env n ρ (.ListComp elt (g :: gs) scope pos) (.list out) := by
  have e : ((L.map φ).map fun d => o (ψ d)).flatten = out := by
    rw [← ho, List.map_map]
    congr 1
    exact List.map_congr_left fun a ha => by simp [hψ a ha]
  rw [← e]
  refine ev_comp (ρc := ρc) ⟨hasy, hk, CapOk.of F nd hfree, hI, hs, hc.ok, fun env' F' d hd => ?_, by rw [e]; exact hz⟩
  obtain ⟨a, ha, rfl⟩ := List.mem_map.mp hd
  rw [hψ a ha]
  exact items env' F' a ha

theorem item_elt {elt : Expr} {g : Comprehension} {scope : Scope} {pos : Pos} {d e : D} (hifs : g.ifs = []) (ha : AsgJ c env n ρ g.target d ρ') (hsub : ∀ p ∈ ρ, p ∈ ρ') (h : EvJ c env n ρ' elt e) :
    ItemJ c env n ρ (listK c elt [g] scope pos env) g 0 d [e] :=
  ⟨ρ', ha, hsub, .inl ⟨by rw [hifs]; exact TestsJ.nil, gath_elt h⟩⟩
theorem item_if {elt t : Expr} {g : Comprehension} {scope : Scope} {pos : Pos} {d e : D} {b : Bool} (hifs : g.ifs = [t]) (ha : AsgJ c env n ρ g.target d ρ') (hsub : ∀ p ∈ ρ, p ∈ ρ') (ht : TestJ c env n ρ' t b) (h : b = true → EvJ c env n ρ' elt e) :
    ItemJ c env n ρ (listK c elt [g] scope pos env) g 0 d (if b then [e] else []) := by
  refine ⟨ρ', ha, hsub, ?_⟩
  rw [hifs]
  cases b with
  | true => exact .inl ⟨TestsJ.one ht, gath_elt (h rfl)⟩
  | false => exact .inr ⟨TestsJ.one ht, rfl⟩

noncomputable def D.i : D → Int | .int i => i | _ => 0
noncomputable def D.s : D → Str | .str x => x | _ => ""
noncomputable def D.ps : D → Str × Str | .tup [.str a, .str b] => (a, b) | _ => ("", "")
noncomputable def D.ss : D → List Str | .list ds => ds.map D.s | _ => []
noncomputable abbrev wD (w : List Str) : D := .list (w.map .str)
theorem ss_wD (w : List Str) : (wD w).ss = w := by
  simp only [wD, D.ss, List.map_map]
  exact (List.map_congr_left fun a _ => rfl).trans (List.map_id _)
theorem sub_drop {x : Str} {d : D} (h : ρ.all (fun p => p.1 != x) = true) : ∀ p ∈ ρ, p ∈ (x, d) :: dropN x ρ := fun p hp =>
  .tail _ (List.mem_filter.mpr ⟨hp, List.all_eq_true.mp h p hp⟩)
theorem sub_drop2 {x y : Str} {d e : D} (h : ρ.all (fun p => p.1 != x && p.1 != y) = true) : ∀ p ∈ ρ, p ∈ (y, e) :: dropN y ((x, d) :: dropN x ρ) := fun p hp => by
  have := List.all_eq_true.mp h p hp
  rw [Bool.and_eq_true] at this
  exact .tail _ (List.mem_filter.mpr ⟨.tail _ (List.mem_filter.mpr ⟨hp, this.1⟩), this.2⟩)

/-! _law_price -/
noncomputable def priceP (w v : List Str) : Int := ((w.zip v).map fun p => subP p.1 p.2).sum
theorem fn_price (T : Tp c) {w v : List Str} (hw : ∀ x ∈ w, x.length ≤ 1000) (hv : ∀ x ∈ v, x.length ≤ 1000) (hz : w.length ≤ 1000) : FnJ c (.ref 130) (n + 2) [wD w, wD v] (.int (priceP w v)) := by
  have G : GlOk c (fnNames 130) [("sum", .builtin "sum"), ("zip", .type "zip")] := by walk_at "gl"
  refine FnJ.of (def130 T) _ G.ok rfl fun env F => ?_
  show ExJ c env (n + 1) [("way", wD w), ("other", wD v), ("sum", .glob (.builtin "sum")), ("zip", .glob (.type "zip"))] (fnBody 130) _
  conv => arg 5; whnf
  refine ExJ.ret (d := .int (priceP w v)) ?_ rfl
  refine EvJ.callb (ds := [.list (((w.zip v).map fun p => subP p.1 p.2).map .int)]) (by walk_at "mem") (EvL.cons ?_ EvL.nil) fn_sum_list
  refine ev_compL F [("_substitution_cost", .glob (.ref 38))] (w.zip v) (fun p => .tup [.str p.1, .str p.2]) D.ps (fun p => [.int (subP p.1 p.2)]) _ (by walk_at "sees") ?_ (fun env' F' p hp => ?_) (fun a _ => rfl) ?_ ?_ (by decide) rfl (by decide +kernel) (by decide +kernel) (fun x => rfl)
  · rw [show (w.zip v).map (fun p => D.tup [.str p.1, .str p.2]) = zipD (w.map .str) (v.map .str) by simp [zipD, List.zip_map]]
    exact IterJ.zip (by walk_at "mem") (by walk_at "ev") (by walk_at "ev")
  · have h1 := hw _ (List.of_mem_zip hp).1
    have h2 := hv _ (List.of_mem_zip hp).2
    have f1 : FnJ c (.ref 38) (n + 1) [.str p.1, .str p.2] (.int (subP p.1 p.2)) := fn_sub T (by omega) (by omega)
    exact item_elt rfl (AsgJ.tup (StoresJ.cons (by walk_at "own") (StoresJ.cons (by walk_at "own") StoresJ.nil))) (sub_drop2 rfl) (by walk_at "ev")
  · simp only [List.map_map]; rw [← List.flatMap_def]; simp [List.flatMap_singleton', Function.comp_def, List.map_eq_flatMap]
  · simp [sizeLine]; omega
end
section
variable {c : Wd} {env : Env} {ρ ρ' ρc : Ro} {n : Nat} {R : FlowD → Prop}

theorem Ex1.forL {x : Str} {tp pos : Pos} {iter : Expr} {body : List Stmt} {ds : List D} (LL : Nat → Ro) (hI : IterJ c env n ρ iter (.Name x tp) ds) (h0 : ∀ p ∈ LL 0, p ∈ ρ) (hx : Own env x) (hd : ∀ i, (LL i).all (fun p => p.1 != x) = true)
    (turn : ∀ i d, ds[i]? = some d → ExJ c env n ((x, d) :: LL i) body (fun r => match r with | .next ρ' => ∀ p ∈ LL (i + 1), p ∈ ρ' | .ret d => R (.ret d)))
    (done : ∀ ρ', (∀ p ∈ LL ds.length, p ∈ ρ') → R (.next ρ')) (hs : ∀ x, foldedSetIterable iter env x = pure x := by intro x; rfl) :
    Ex1 c env n ρ (.For (.Name x tp) iter body [] pos) R := by
  refine Ex1.for (fun i ρ => ∀ p ∈ LL i, p ∈ ρ) hI h0 (fun i d ρi hd' hp => ⟨_, AsgJ.name hx, ?_⟩) done (hs := hs)
  refine ExJ.sub (turn i d hd') fun p hp' => ?_
  rcases List.mem_cons.mp hp' with rfl | hp'
  · exact .head _
  · exact .tail _ (List.mem_filter.mpr ⟨hp p hp', List.all_eq_true.mp (hd i) p hp'⟩)
theorem flat_if {α β : Type} (S : List α) (p : α → Bool) (φ : α → β) : (S.map fun x => if p x then [φ x] else []).flatten = (S.filter p).map φ := by
  induction S with
  | nil => rfl
  | cons a S ih => simp only [List.map_cons, List.flatten_cons, ih, List.filter_cons]; cases p a <;> simp
theorem flat_one {α β : Type} (S : List α) (φ : α → β) : (S.map fun x => [φ x]).flatten = S.map φ := by
  induction S with
  | nil => rfl
  | cons a S ih => simp only [List.map_cons, List.flatten_cons, ih]; rfl
theorem filter_le {α : Type} (S : List α) (p : α → Bool) : (S.filter p).length ≤ S.length := List.length_filter_le ..

/-! _law_bounds -/
noncomputable def cnt (S : List Int) (k d : Int) : Int := (S.filter fun x => x / k == d).length
noncomputable def loS (S T : List Int) (k : Int) (m : Nat) : Int := ((List.range m).map fun (d : Nat) => min (cnt S k d) (cnt T k d)).sum
noncomputable def hiS (S T : List Int) (k : Int) (m : Nat) : Int := ((List.range m).map fun (d : Nat) => max 0 (cnt S k d + cnt T k d - 4)).sum
noncomputable def leastP (S T Z : List Int) : Int := (Z.map fun k => 4 - loS S T k (12 / k).toNat).sum
noncomputable def mostP (S T Z : List Int) : Int := (Z.map fun k => 4 - hiS S T k (12 / k).toNat).sum
theorem rng_get {m i : Nat} {d : D} (h : (rng m)[i]? = some d) : d = .int i := by
  simp only [rng, List.getElem?_map, Option.map_eq_some_iff] at h
  obtain ⟨a, ha, rfl⟩ := h
  rw [List.getElem?_eq_some_iff] at ha
  obtain ⟨h1, h2⟩ := ha
  simp at h2; rw [h2]
theorem range_snoc (f : Nat → Int) (i : Nat) : ((List.range (i + 1)).map f).sum = ((List.range i).map f).sum + f i := by
  rw [List.range_succ, List.map_append, List.sum_append]; simp
theorem take_snoc (Z : List Int) (f : Int → Int) (i : Nat) (k : Int) (h : Z[i]? = some k) : ((Z.take (i + 1)).map f).sum = ((Z.take i).map f).sum + f k := by
  rw [List.take_add_one, h, List.map_append, List.sum_append]; simp

theorem len_cnt {S : List Int} {k d : Int} (h : S.length ≤ 100) : FnJ c (.builtin "len") n [.list ((S.filter fun x => x / k == d).map .int)] (.int (cnt S k d)) := by
  have h1 := filter_le S fun x => x / k == d
  have h2 : ((S.filter fun x => x / k == d).map D.int).length < 1000000 := by rw [List.length_map]; omega
  have := fn_len_list (c := c) (n := n) h2
  rw [List.length_map] at this
  exact this
noncomputable def bndL (S B : List Int) (l m : Int) : Ro := [("least", .int l), ("most", .int m), ("sellers", .list (S.map .int)), ("buyers", .list (B.map .int)), ("range", .glob (.type "range")), ("len", .glob (.builtin "len")), ("min", .glob (.builtin "min")), ("max", .glob (.builtin "max"))]
theorem fn_bounds (T : Tp c) {S B Z : List Int} (hS : S.length ≤ 100) (hB : B.length ≤ 100) (hZ : ∀ k ∈ Z, 0 < k ∧ k < 1000) : FnJ c (.ref 135) (n + 1) [.list (S.map .int), .list (B.map .int), .tup (Z.map .int)] (.tup [.int (leastP S B Z), .int (mostP S B Z)]) := by
  have G : GlOk c (fnNames 135) [("range", .type "range"), ("len", .builtin "len"), ("min", .builtin "min"), ("max", .builtin "max")] := by walk_at "gl"
  refine FnJ.of (def135 T) _ G.ok rfl fun env F => ?_
  show ExJ c env n [("sellers", .list (S.map .int)), ("buyers", .list (B.map .int)), ("sizes", .tup (Z.map .int)), ("range", .glob (.type "range")), ("len", .glob (.builtin "len")), ("min", .glob (.builtin "min")), ("max", .glob (.builtin "max"))] (fnBody 135) _
  conv => arg 5; whnf
  refine ExJ.assign (d := .int 0) (by walk_at "ev") (by walk_at "own") ?_
  refine ExJ.assign (d := .int 0) (by walk_at "ev") (by walk_at "own") ?_
  have LLall : ∀ l m, ((bndL S B l m).all fun p => p.1 != "size") = true := fun _ _ => rfl
  let l1 : Nat → Int := fun i => ((Z.take i).map fun k => 4 - loS S B k (12 / k).toNat).sum
  let m1 : Nat → Int := fun i => ((Z.take i).map fun k => 4 - hiS S B k (12 / k).toNat).sum
  refine ExJ.seq (R' := fun r => ∃ ρ', r = .next ρ' ∧ ∀ p ∈ bndL S B (leastP S B Z) (mostP S B Z), p ∈ ρ') (Ex1.forL (fun i => bndL S B (l1 i) (m1 i)) (IterJ.tup (by walk_at "ev")) ?_ (by walk_at "own") (fun i => LLall _ _) (fun i d hd => ?_) (fun ρ' h => ⟨ρ', rfl, ?_⟩)) (fun ρ' q => ?_) (fun d q => by obtain ⟨_, q, _⟩ := q; cases q)
  · show ∀ p ∈ bndL S B 0 0, _
    unfold bndL; walk_at "subs"
  · simp only [List.getElem?_map, Option.map_eq_some_iff] at hd
    obtain ⟨k, hk, rfl⟩ := hd
    obtain ⟨hk0, hk1⟩ := hZ k (List.mem_of_getElem? hk)
    have hm : (12 : Int) / k = ((12 / k).toNat : Int) := by have : 0 ≤ 12 / k := Int.ediv_nonneg (by omega) (by omega); omega
    have hm' : (12 / k).toNat < 1000 := by have : 12 / k ≤ 12 := Int.ediv_le_self _ (by omega); omega
    have hl1 : l1 (i + 1) = l1 i + 4 - loS S B k (12 / k).toNat := by show ((Z.take (i + 1)).map _).sum = _; rw [take_snoc _ _ _ _ hk]; show l1 i + _ = _; omega
    have hm1 : m1 (i + 1) = m1 i + 4 - hiS S B k (12 / k).toNat := by show ((Z.take (i + 1)).map _).sum = _; rw [take_snoc _ _ _ _ hk]; show m1 i + _ = _; omega
    show ExJ c env n (_ :: bndL S B (l1 i) (m1 i)) _ _
    generalize l1 i = l at hl1 ⊢
    generalize m1 i = m at hm1 ⊢
    unfold bndL
    refine ExJ.aug (k := l + 4) (by walk_at "own") (by walk_at "mem") (by walk_at "ev") rfl ?_
    refine ExJ.aug (k := m + 4) (by walk_at "own") (by walk_at "mem") (by walk_at "ev") rfl ?_
    have z0 : loS S B k 0 = 0 := rfl
    have z1 : hiS S B k 0 = 0 := rfl
    refine ExJ.last (Ex1.forL (fun j => ("size", .int k) :: bndL S B (l + 4 - loS S B k j) (m + 4 - hiS S B k j)) (IterJ.range (m := (12 / k).toNat) (by walk_at "mem") ?_ hm') ?_ (by walk_at "own") (fun i => rfl) (fun j d hd => ?_) (fun ρ' h => ?_))
    · rw [← hm]
      walk_at "ev"
    · rw [z0, z1, Int.sub_zero, Int.sub_zero]; unfold bndL; walk_at "subs"
    · obtain rfl := rng_get hd
      have hl2 : loS S B k (j + 1) = loS S B k j + min (cnt S k j) (cnt B k j) := range_snoc _ _
      have hm2 : hiS S B k (j + 1) = hiS S B k j + max 0 (cnt S k j + cnt B k j - 4) := range_snoc _ _
      rw [hl2, hm2]
      generalize loS S B k j = lo
      generalize hiS S B k j = hi
      unfold bndL
      refine ExJ.assign (d := .int (cnt S k j)) ?_ (by walk_at "own") ?_
      · refine EvJ.callb (ds := [.list ((S.filter fun x => x / k == (j : Int)).map .int)]) (by walk_at "mem") (EvL.cons (ev_compL F [("size", .int k), ("domain", .int j)] S .int D.i (fun x => if x / k == (j : Int) then [.int x] else []) _ (by walk_at "sees") (IterJ.list (by walk_at "ev"))
            (fun env' F' a ha => item_if rfl (AsgJ.name (by walk_at "own")) (sub_drop rfl) (by walk_at "tst") (fun _ => by walk_at "ev")) (fun a _ => rfl) (flat_if ..) ?_ (by decide) rfl (by decide +kernel) (by decide +kernel) (fun x => rfl)) EvL.nil) (len_cnt hS)
        have := filter_le S fun x => x / k == (j : Int)
        simp [sizeLine]; omega
      refine ExJ.assign (d := .int (cnt B k j)) ?_ (by walk_at "own") ?_
      · refine EvJ.callb (ds := [.list ((B.filter fun x => x / k == (j : Int)).map .int)]) (by walk_at "mem") (EvL.cons (ev_compL F [("size", .int k), ("domain", .int j)] B .int D.i (fun x => if x / k == (j : Int) then [.int x] else []) _ (by walk_at "sees") (IterJ.list (by walk_at "ev"))
            (fun env' F' a ha => item_if rfl (AsgJ.name (by walk_at "own")) (sub_drop rfl) (by walk_at "tst") (fun _ => by walk_at "ev")) (fun a _ => rfl) (flat_if ..) ?_ (by decide) rfl (by decide +kernel) (by decide +kernel) (fun x => rfl)) EvL.nil) (len_cnt hB)
        have := filter_le B fun x => x / k == (j : Int)
        simp [sizeLine]; omega
      generalize cnt S k j = x
      generalize cnt B k j = y
      refine ExJ.aug (k := l + 4 - (lo + min x y)) (by walk_at "own") (by walk_at "mem") (by walk_at "ev") (by simp only [AugI]; congr 1; omega) ?_
      refine ExJ.aug (k := m + 4 - (hi + max 0 (x + y - 4))) (by walk_at "own") (by walk_at "mem") (by walk_at "ev") (by simp only [AugI]; congr 1; omega) ?_
      exact ExJ.nil (by walk_at "subs")
    · have h := h
      rw [show (rng (12 / k).toNat).length = (12 / k).toNat by simp [rng]] at h
      show ∀ p ∈ bndL S B (l1 (i + 1)) (m1 (i + 1)), p ∈ ρ'
      rw [hl1, hm1]
      exact fun p hp => h p (.tail _ hp)
  · rw [List.length_map] at h
    have e1 : l1 Z.length = leastP S B Z := by show ((Z.take Z.length).map _).sum = _; rw [List.take_length]; rfl
    have e2 : m1 Z.length = mostP S B Z := by show ((Z.take Z.length).map _).sum = _; rw [List.take_length]; rfl
    show ∀ p ∈ bndL S B _ _, p ∈ ρ'
    rw [← e1, ← e2]; exact h
  · obtain ⟨ρ'', q, h⟩ := q
    cases q
    refine ExJ.sub ?_ h
    unfold bndL
    exact ExJ.ret (by walk_at "ev") rfl
end
section
variable {c : Wd} {env : Env} {ρ ρ' ρc : Ro} {n : Nat} {R : FlowD → Prop}

theorem clsOk (T : Tp c) : ClsOk c 78 85 := by
  constructor <;> rw [T.K] <;> rfl
theorem patOk (T : Tp c) : PatAt c 43 := ⟨_, _, _, _, _, _, by rw [T.K]; rfl, by rw [T.K]; rfl, rfl, by decide +kernel⟩

noncomputable abbrev selD (sel : List (Nat × Int)) : D := .list (sel.map fun p => .tup [.int p.1, .int p.2])
/-- how two rows compare -/
noncomputable def cmpP : List (Nat × Int) → (Nat → Int) → (Nat → Int) → Int
  | [], _, _ => 0
  | (i, d) :: r, L, R => if L i < R i then -d else if R i < L i then d else cmpP r L R

theorem fn_comp (T : Tp c) {sel : List (Nat × Int)} {ls rs : List D} {L Q : Nat → Int} (hl : ∀ p ∈ sel, ls[p.1]? = some (.int (L p.1)) ∧ rs[p.1]? = some (.int (Q p.1)) ∧ p.1 < 100) :
    FnJ c (.ref 85) (n + 1) [.inst (selD sel), .tup ls, .tup rs] (.int (cmpP sel L Q)) := by
  refine FnJ.of (def85 T) [] (fun _ h => nomatch h) rfl fun env F => ?_
  show ExJ c env n [("self", .inst (selD sel)), ("left", .tup ls), ("right", .tup rs)] (fnBody 85) _
  conv => arg 5; whnf
  refine ExJ.seq (R' := fun r => (∃ ρ', r = .next ρ' ∧ cmpP sel L Q = 0) ∨ r = .ret (.int (cmpP sel L Q))) (Ex1.for (fun i ρ => (∀ p ∈ [(("left" : Str), D.tup ls), ("right", .tup rs)], p ∈ ρ) ∧ cmpP (sel.drop i) L Q = cmpP sel L Q) (IterJ.list (ev_attr (clsOk T) (by walk_at "mem") handed_list)) ⟨by walk_at "subs", rfl⟩ (fun i d ρi hd hp => ?_) (fun ρ' hp => ?_)) (fun ρ' q => ?_) (fun d q => ?_)
  · obtain ⟨hp, hc⟩ := hp
    simp only [List.getElem?_map, Option.map_eq_some_iff] at hd
    obtain ⟨⟨j, dr⟩, hj, rfl⟩ := hd
    obtain ⟨h1, h2, h3⟩ := hl _ (List.mem_of_getElem? hj)
    dsimp only at h1 h2 h3
    have hdrop : sel.drop i = (j, dr) :: sel.drop (i + 1) := by
      obtain ⟨hlt, he⟩ := List.getElem?_eq_some_iff.mp hj
      rw [List.drop_eq_getElem_cons hlt, he]
    rw [hdrop] at hc
    refine ⟨_, AsgJ.tup (StoresJ.cons (by walk_at "own") (StoresJ.cons (by walk_at "own") StoresJ.nil)), ?_⟩
    refine ExJ.sub (ρ' := [("direction", .int dr), ("index", .int j), ("left", .tup ls), ("right", .tup rs)]) ?_ (sub_cons mem_here (sub_cons (mem_there (mem_drop (by decide) mem_here)) (sub_cons (mem_there (mem_drop (by decide) (mem_there (mem_drop (by decide) (hp _ (by walk_at "mem")))))) (sub_cons (mem_there (mem_drop (by decide) (mem_there (mem_drop (by decide) (hp _ (by walk_at "mem")))))) sub_nil))))
    have h1' : ls[((j : Nat) : Int).toNat]? = some (.int (L j)) := by simpa using h1
    have h2' : rs[((j : Nat) : Int).toNat]? = some (.int (Q j)) := by simpa using h2
    have hj0 : (0 : Int) ≤ (j : Int) := by omega
    have hj1 : (j : Int) < 2 ^ 63 := by omega
    refine ExJ.assign (d := .int (L j)) (idx_tupT (by walk_at "ev") (by walk_at "ev") hj0 h1' hj1) (by walk_at "own") ?_
    refine ExJ.assign (d := .int (Q j)) (idx_tupT (by walk_at "ev") (by walk_at "ev") hj0 h2' hj1) (by walk_at "own") ?_
    change (if L j < Q j then -dr else if Q j < L j then dr else cmpP (sel.drop (i + 1)) L Q) = _ at hc
    refine ExJ.ifret (d := .int (-dr)) (b := decide (L j < Q j)) (by walk_at "tst") (fun q => ⟨by walk_at "ev", .inr (by rw [if_pos (of_decide_eq_true q)] at hc; rw [hc])⟩) fun q => ?_
    rw [if_neg (of_decide_eq_false q)] at hc
    refine ExJ.ifret (d := .int dr) (b := decide (Q j < L j)) (by walk_at "tst") (fun q => ⟨by walk_at "ev", .inr (by rw [if_pos (of_decide_eq_true q)] at hc; rw [hc])⟩) fun q => ?_
    rw [if_neg (of_decide_eq_false q)] at hc
    exact ExJ.nil ⟨by walk_at "subs", hc⟩
  · refine .inl ⟨ρ', rfl, ?_⟩
    have := hp.2
    rw [List.length_map, List.drop_length] at this
    exact this.symm
  · rcases q with ⟨ρ'', q, h0⟩ | q
    · cases q
      exact ExJ.ret (by walk_at "ev") (ret_eq (by rw [h0]))
    · cases q
  · rcases q with ⟨ρ'', q, h0⟩ | q
    · cases q
    · exact q

/-! _law_first -/
noncomputable def firstP {α : Type} (sel : List (Nat × Int)) (key : α → Nat → Int) (turn : Int) (r : α) (rs : List α) : α := rs.foldl (fun best row => if cmpP sel (key row) (key best) * turn < 0 then row else best) r

theorem fn_first (T : Tp c) {α : Type} {sel : List (Nat × Int)} {φ : α → List D} {key : α → Nat → Int} {turn : Int} {r : α} {rs : List α} (hk : ∀ a ∈ r :: rs, ∀ p ∈ sel, (φ a)[p.1]? = some (.int (key a p.1)) ∧ p.1 < 100)
    (hm : ∀ a ∈ r :: rs, ∀ b ∈ r :: rs, IntMulOk (cmpP sel (key a) (key b)) turn) (hz : rs.length < 1000) :
    FnJ c (.ref 142) (n + 2) [.list ((r :: rs).map fun a => .tup (φ a)), .inst (selD sel), .int turn] (.tup (φ (firstP sel key turn r rs))) := by
  refine FnJ.of (def142 T) [] (fun _ h => nomatch h) rfl fun env F => ?_
  show ExJ c env (n + 1) [("rows", .list ((r :: rs).map fun a => .tup (φ a))), ("comp", .inst (selD sel)), ("turn", .int turn)] (fnBody 142) _
  conv => arg 5; whnf
  refine ExJ.assign (d := .tup (φ r)) (by walk_at "ev") (by walk_at "own") ?_
  let b1 : Nat → α := fun i => firstP sel key turn r (rs.take i)
  have hmem : ∀ (l : List α) (a : α), firstP sel key turn a l ∈ a :: l := by
    intro l
    induction l with
    | nil => intro a; exact .head _
    | cons b l ih =>
      intro a
      show firstP sel key turn (if _ then b else a) l ∈ _
      split
      · exact .tail _ (ih b)
      · rcases List.mem_cons.mp (ih a) with q | q
        · rw [q]; exact .head _
        · exact .tail _ (.tail _ q)
  let LL : Nat → Ro := fun i => [("best", .tup (φ (b1 i))), ("comp", .inst (selD sel)), ("turn", .int turn)]
  refine ExJ.seq (R' := fun r' => ∃ ρ', r' = .next ρ' ∧ (("best" : Str), D.tup (φ (firstP sel key turn r rs))) ∈ ρ') (Ex1.forL LL (ds := rs.map fun a => .tup (φ a)) (IterJ.list (slice_from (k := 1) (ds := (r :: rs).map fun a => .tup (φ a)) (by walk_at "ev") EvJ.int (by simp [sizeLine]; omega)))
    ?_ (by walk_at "own") (fun i => rfl) (fun i d hd => ?_) (fun ρ' h => ⟨ρ', rfl, ?_⟩)) (fun ρ' q => ?_) (fun d q => by obtain ⟨_, q, _⟩ := q; cases q)
  · exact sub_cons mem_here (sub_cons (mem_there (mem_drop (by decide) (by walk_at "mem"))) (sub_cons (mem_there (mem_drop (by decide) (by walk_at "mem"))) sub_nil))
  · simp only [List.getElem?_map, Option.map_eq_some_iff] at hd
    obtain ⟨a, ha, rfl⟩ := hd
    have har : a ∈ r :: rs := .tail _ (List.mem_of_getElem? ha)
    have hb1 : b1 (i + 1) = if cmpP sel (key a) (key (b1 i)) * turn < 0 then a else b1 i := by
      show firstP sel key turn r (rs.take (i + 1)) = _
      rw [List.take_add_one, ha]
      unfold firstP
      rw [List.foldl_append]
      rfl
    have hbm : b1 i ∈ r :: rs := by
      have := hmem (rs.take i) r
      rcases List.mem_cons.mp this with q | q
      · show firstP sel key turn r (rs.take i) ∈ _
        rw [q]; exact .head _
      · exact .tail _ (List.mem_of_mem_take q)
    show ExJ c env (n + 1) [("row", .tup (φ a)), ("best", .tup (φ (b1 i))), ("comp", .inst (selD sel)), ("turn", .int turn)] _ _
    have hf : FnJ c (.ref 85) (n + 1) [.inst (selD sel), .tup (φ a), .tup (φ (b1 i))] (.int (cmpP sel (key a) (key (b1 i)))) :=
      fn_comp T fun p hp => ⟨(hk a har p hp).1, (hk _ hbm p hp).1, (hk a har p hp).2⟩
    have hmo := hm a har _ hbm
    refine ExJ.last (Ex1.if (b := decide (cmpP sel (key a) (key (b1 i)) * turn < 0)) (TestJ.cmp (EvJ.bin (ev_compare (clsOk T) (by walk_at "mem") (by walk_at "evl") hf) (by walk_at "ev") (bin_mul hmo)) (by walk_at "ev") cmp_lt) (fun q => ?_) fun q => ExJ.nil ?_)
    · refine ExJ.assign (d := .tup (φ a)) (by walk_at "ev") (by walk_at "own") (ExJ.nil ?_)
      show ∀ p ∈ LL (i + 1), _
      show ∀ p ∈ [(("best" : Str), D.tup (φ (b1 (i + 1)))), ("comp", .inst (selD sel)), ("turn", .int turn)], _
      rw [hb1, if_pos (of_decide_eq_true q)]
      walk_at "subs"
    · show ∀ p ∈ [(("best" : Str), D.tup (φ (b1 (i + 1)))), ("comp", .inst (selD sel)), ("turn", .int turn)], _
      rw [hb1, if_neg (of_decide_eq_false q)]
      walk_at "subs"
  · have := h _ (.head _)
    rw [List.length_map] at this
    rwa [show b1 rs.length = firstP sel key turn r rs by show firstP sel key turn r (rs.take rs.length) = _; rw [List.take_length]] at this
  · obtain ⟨ρ'', q, h⟩ := q
    cases q
    exact ExJ.ret (EvJ.name h) rfl

/-! count_calls -/
theorem fn_count (T : Tp c) {ks : List (Str × Int)} : FnJ c (.ref 106) (n + 1) [.dict (ks.map fun p => (p.1, .int p.2))] (.int (ks.map (·.2)).sum) := by
  refine FnJ.of (def106 T) [] (fun _ h => nomatch h) rfl fun env F => ?_
  show ExJ c env n [("callers", .dict (ks.map fun p => (p.1, .int p.2)))] (fnBody 106) _
  conv => arg 5; whnf
  refine ExJ.assign (d := .int 0) (by walk_at "ev") (by walk_at "own") ?_
  refine ExJ.seq (R' := fun r' => ∃ ρ', r' = .next ρ' ∧ (("nc" : Str), D.int (ks.map (·.2)).sum) ∈ ρ') (Ex1.forL (fun i => [("nc", .int ((ks.take i).map (·.2)).sum)]) (IterJ.values (by walk_at "ev")) (sub_cons mem_here sub_nil) (by walk_at "own") (fun i => rfl) (fun i d hd => ?_) (fun ρ' h => ⟨ρ', rfl, ?_⟩)) (fun ρ' q => ?_) (fun d q => by obtain ⟨_, q, _⟩ := q; cases q)
  · simp only [List.map_map, List.getElem?_map, Option.map_eq_some_iff] at hd
    obtain ⟨p, hp, rfl⟩ := hd
    have : ((ks.take (i + 1)).map (·.2)).sum = ((ks.take i).map (·.2)).sum + p.2 := by rw [List.take_add_one, hp]; simp
    rw [this]
    show ExJ c env n [("calls", .int p.2), ("nc", .int ((ks.take i).map (·.2)).sum)] _ _
    exact ExJ.aug (j := p.2) (by walk_at "own") (by walk_at "mem") (by walk_at "ev") rfl (ExJ.nil (by walk_at "subs"))
  · have := h _ (.head _)
    simpa using this
  · obtain ⟨ρ'', q, h⟩ := q
    cases q
    exact ExJ.ret (EvJ.name h) rfl
end
section
variable {c : Wd} {env : Env} {ρ ρ' ρc : Ro} {n : Nat} {R : FlowD → Prop}

theorem ev_dictL {α : Type} {kx vx : Expr} {g : Comprehension} {gs : List Comprehension} {scope : Scope} {pos : Pos} {NM NO : List (Str × NameKind)} (F : Fenv env NM NO) (ρc : Ro) (L : List α) (φ : α → D) (ψ : D → α) (o : α → List (Str × D)) (out : List (Str × D))
    (hc : Sees c env scope.names ρ ρc) (hI : IterJ c env n ρ g.iter g.target (L.map φ))
    (items : ∀ env', Fenv env' (capNames scope.names) scope.names → ∀ a ∈ L, ItemJ c env' n ρc (dictK c kx vx (g :: gs) scope pos env') g 0 (φ a) (o a))
    (hψ : ∀ a ∈ L, ψ (φ a) = a) (ho : madeK (L.map o).flatten = out) (hz : (L.map o).flatten.length ≤ sizeLine)
    (hasy : ∀ g' ∈ g :: gs, g'.is_async = 0) (hk : scope.kind = .function) (nd : (scope.names.map (·.1)).Nodup) (hfree : ∀ p ∈ scope.names, p.2 = .free → NM.lookup p.1 = some .cell)
    (hs : ∀ x, foldedSetIterable g.iter env x = pure x) :
    EvJ c env n ρ (.DictComp kx vx (g :: gs) scope pos) (.dict out) := by
  have e : ((L.map φ).map fun d => o (ψ d)).flatten = (L.map o).flatten := by
    rw [List.map_map]
    congr 1
    exact List.map_congr_left fun a ha => by simp [hψ a ha]
  rw [← ho, ← e]
  refine ev_dictcomp (ρc := ρc) ⟨hasy, hk, CapOk.of F nd hfree, hI, hs, hc.ok, fun env' F' d hd => ?_, by rw [e]; exact hz⟩
  obtain ⟨a, ha, rfl⟩ := List.mem_map.mp hd
  rw [hψ a ha]
  exact items env' F' a ha
theorem item_pair {kx vx : Expr} {g : Comprehension} {scope : Scope} {pos : Pos} {d e : D} {k : Str} (hifs : g.ifs = []) (ha : AsgJ c env n ρ g.target d ρ') (hsub : ∀ p ∈ ρ, p ∈ ρ') (hk : EvJ c env n ρ' kx (.str k)) (h : EvJ c env n ρ' vx e) :
    ItemJ c env n ρ (dictK c kx vx [g] scope pos env) g 0 d [(k, e)] :=
  ⟨ρ', ha, hsub, .inl ⟨by rw [hifs]; exact TestsJ.nil, gath_pair hk h⟩⟩

/-! books -/
noncomputable abbrev pD (p : Int × Int) : D := .tup [.int p.1, .int p.2]
noncomputable abbrev bD (b : List (Str × (Int × Int))) : D := .dict (b.map fun q => (q.1, pD q.2))
theorem atK_map {α β : Type} (f : α → β) (b : List (Str × α)) (k : Str) : atK (b.map fun q => (q.1, f q.2)) k = (atK b k).map f := by
  unfold atK
  rw [List.find?_map]
  simp only [Option.map_map, Function.comp_def]
theorem atK_mem {α : Type} : ∀ {b : List (Str × α)} {k : Str} {v : α}, (b.map (·.1)).Nodup → (k, v) ∈ b → atK b k = some v
  | (k', v') :: r, k, v, hn, h => by
    rw [List.map_cons, List.nodup_cons] at hn
    unfold atK
    rw [List.find?_cons]
    rcases List.mem_cons.mp h with e | h
    · cases e; simp
    · have : k' ≠ k := fun e => hn.1 (List.mem_map.mpr ⟨(k, v), h, e.symm⟩)
      simp only [this, decide_false]
      exact atK_mem hn.2 h
theorem putK_new {α : Type} {m : List (Str × α)} {k : Str} {v : α} (h : k ∉ m.map (·.1)) : putK m k v = m ++ [(k, v)] := by
  unfold putK
  rw [if_neg]
  intro q
  obtain ⟨x, hx, e⟩ := List.any_eq_true.mp q
  exact h (List.mem_map.mpr ⟨x, hx, of_decide_eq_true e⟩)
theorem madeK_go {α : Type} : ∀ (b m : List (Str × α)), (b.map (·.1)).Nodup → (∀ k ∈ b.map (·.1), k ∉ m.map (·.1)) → b.foldl (fun m p => putK m p.1 p.2) m = m ++ b
  | [], m, _, _ => by simp
  | (k, v) :: r, m, hn, hd => by
    rw [List.map_cons, List.nodup_cons] at hn
    rw [List.foldl_cons, putK_new (hd k (by simp)), madeK_go r _ hn.2 fun k' hk' q => ?_]
    · simp
    · rw [List.map_append, List.mem_append] at q
      rcases q with q | q
      · exact hd k' (List.mem_cons_of_mem _ hk') q
      · simp at q; subst q; exact hn.1 hk'
theorem madeK_nodup {α : Type} {b : List (Str × α)} (hn : (b.map (·.1)).Nodup) : madeK b = b := by
  unfold madeK; rw [madeK_go b [] hn fun _ _ h => nomatch h]; rfl

theorem keys_str (b : List (Str × (Int × Int))) : (b.map (·.1)).map D.str = (b.map fun q => (q.1, pD q.2)).map (fun p => D.str p.1) := by simp [Function.comp_def]

theorem sum_pair (p : Int × Int) : FnJ c (.builtin "sum") n [pD p] (.int (p.1 + p.2)) := by
  have := fn_sum_tup (c := c) (n := n) (ns := [p.1, p.2])
  simpa using this
theorem fn_lesser (T : Tp c) {b : List (Str × (Int × Int))} (hn : (b.map (·.1)).Nodup) (hz : b.length ≤ 1000) : FnJ c (.ref 169) (n + 2) [bD b] (.int (b.map fun q => min q.2.1 q.2.2).sum) := by
  have G : GlOk c (fnNames 169) [("count_calls", .ref 106)] := by walk_at "gl"
  refine FnJ.of (def169 T) _ G.ok rfl fun env F => ?_
  show ExJ c env (n + 1) [("book", bD b), ("count_calls", .glob (.ref 106))] (fnBody 169) _
  conv => arg 5; whnf
  have hcnt : FnJ c (.ref 106) (n + 1) [.dict ((b.map fun q => (q.1, min q.2.1 q.2.2)).map fun p => (p.1, .int p.2))] (.int (b.map fun q => min q.2.1 q.2.2).sum) := by
    have := fn_count (n := n) T (ks := b.map fun q => (q.1, min q.2.1 q.2.2))
    simpa [Function.comp_def] using this
  refine ExJ.ret (d := .int (b.map fun q => min q.2.1 q.2.2).sum) (EvJ.call (by walk_at "mem") (by walk_at "def") (EvL.cons (ev_dictL F [("book", bD b), ("min", .glob (.builtin "min"))] (b.map (·.1)) .str D.s (fun k => [(k, .int (match atK b k with | some p => min p.1 p.2 | none => 0))]) _ (by walk_at "sees") ?_ (fun env' F' k hk => ?_) (fun _ _ => rfl) ?_ ?_ (by decide) rfl (by decide +kernel) (by decide +kernel) (fun x => rfl)) EvL.nil) hcnt) rfl
  · rw [keys_str]
    exact IterJ.keys (by walk_at "ev")
  · obtain ⟨⟨k', p⟩, hp, rfl⟩ := List.mem_map.mp hk
    rw [atK_mem hn hp]
    refine item_pair rfl (AsgJ.name (by walk_at "own")) (sub_drop rfl) (by walk_at "ev") (EvJ.callb (by walk_at "mem") (EvL.cons (idx_dict (by walk_at "ev") (by walk_at "ev") ?_) EvL.nil) fn_min_pair)
    rw [atK_map, atK_mem hn hp]; rfl
  · rw [flat_one, List.map_map, List.map_map, madeK_nodup]
    · refine List.map_congr_left fun q hq => ?_
      simp only [Function.comp_def]
      rw [atK_mem hn (k := q.1) (v := q.2) hq]
    · rw [List.map_map]; exact hn
  · rw [flat_one]; simp [sizeLine]; omega
theorem fn_above (T : Tp c) {b : List (Str × (Int × Int))} (hn : (b.map (·.1)).Nodup) (hz : b.length ≤ 1000) : FnJ c (.ref 174) (n + 2) [bD b] (.int (b.map fun q => max 0 (q.2.1 + q.2.2 - 4)).sum) := by
  have G : GlOk c (fnNames 174) [("count_calls", .ref 106)] := by walk_at "gl"
  refine FnJ.of (def174 T) _ G.ok rfl fun env F => ?_
  show ExJ c env (n + 1) [("book", bD b), ("count_calls", .glob (.ref 106))] (fnBody 174) _
  conv => arg 5; whnf
  have hcnt : FnJ c (.ref 106) (n + 1) [.dict ((b.map fun q => (q.1, max 0 (q.2.1 + q.2.2 - 4))).map fun p => (p.1, .int p.2))] (.int (b.map fun q => max 0 (q.2.1 + q.2.2 - 4)).sum) := by
    have := fn_count (n := n) T (ks := b.map fun q => (q.1, max 0 (q.2.1 + q.2.2 - 4)))
    simpa [Function.comp_def] using this
  refine ExJ.ret (d := .int (b.map fun q => max 0 (q.2.1 + q.2.2 - 4)).sum) (EvJ.call (by walk_at "mem") (by walk_at "def") (EvL.cons (ev_dictL F [("book", bD b), ("max", .glob (.builtin "max")), ("sum", .glob (.builtin "sum"))] (b.map (·.1)) .str D.s (fun k => [(k, .int (match atK b k with | some p => max 0 (p.1 + p.2 - 4) | none => 0))]) _ (by walk_at "sees") ?_ (fun env' F' k hk => ?_) (fun _ _ => rfl) ?_ ?_ (by decide) rfl (by decide +kernel) (by decide +kernel) (fun x => rfl)) EvL.nil) hcnt) rfl
  · rw [keys_str]
    exact IterJ.keys (by walk_at "ev")
  · obtain ⟨⟨k', p⟩, hp, rfl⟩ := List.mem_map.mp hk
    rw [atK_mem hn hp]
    refine item_pair rfl (AsgJ.name (by walk_at "own")) (sub_drop rfl) (by walk_at "ev") (EvJ.callb (ds := [.int 0, .int (p.1 + p.2 - 4)]) (by walk_at "mem") (EvL.cons (by walk_at "ev") (EvL.cons (EvJ.bin (d₁ := .int (p.1 + p.2)) (EvJ.callb (by walk_at "mem") (EvL.cons (idx_dict (d := pD p) (by walk_at "ev") (by walk_at "ev") ?_) EvL.nil) (sum_pair p)) (by walk_at "ev") bin_sub) EvL.nil)) fn_max2)
    rw [atK_map, atK_mem hn hp]; rfl
  · rw [flat_one, List.map_map, List.map_map, madeK_nodup]
    · refine List.map_congr_left fun q hq => ?_
      simp only [Function.comp_def]
      rw [atK_mem hn (k := q.1) (v := q.2) hq]
    · rw [List.map_map]; exact hn
  · rw [flat_one]; simp [sizeLine]; omega
end
section
variable {c : Wd} {env : Env} {ρ ρ' ρc : Ro} {n : Nat} {R : FlowD → Prop}

theorem blockKind_of {NM NO : List (Str × NameKind)} (F : Fenv env NM NO) : env.blockKind = .function := by
  unfold Env.blockKind; rw [F.plain]; rfl
theorem swaps_local {NM NO : List (Str × NameKind)} (F : Fenv env NM NO) {t : Str} {p pos : Pos} {elt : Expr} {gens : List Comprehension} {scope : Scope} {line : Nat} (hk : NM.lookup t = some .local) (hp : (p.line == pos.line) = true)
    (hn : (scope.names.any fun (n, k) => n == t && (k == .local || k == .cell)) = false) : swapsWith (.ListComp elt gens scope pos) (some (.Name t p)) line env = pure true := by
  show (pure (env.blockKind == .function && env.kindOf t == some .local && p.line == pos.line && !(scope.names.any fun (n, k) => n == t && (k == .local || k == .cell))) : Sem Bool) = pure true
  rw [blockKind_of F, F.kind hk, hp, hn]; rfl
theorem swaps_cell {NM NO : List (Str × NameKind)} (F : Fenv env NM NO) {t : Str} {p pos : Pos} {elt : Expr} {gens : List Comprehension} {scope : Scope} {line : Nat} (hk : NM.lookup t = some .cell) : swapsWith (.ListComp elt gens scope pos) (some (.Name t p)) line env = pure false := by
  show (pure (env.blockKind == .function && env.kindOf t == some .local && p.line == pos.line && !(scope.names.any fun (n, k) => n == t && (k == .local || k == .cell))) : Sem Bool) = pure false
  rw [F.kind hk, show (some NameKind.cell == some NameKind.local) = false from rfl, Bool.and_false, Bool.false_and, Bool.false_and]
theorem ex_assignL {α : Type} {y : Str} {elt : Expr} {g : Comprehension} {gs : List Comprehension} {scope : Scope} {pos p spos : Pos} {NM NO : List (Str × NameKind)} (F : Fenv env NM NO) (ρc : Ro) (L : List α) (φ : α → D) (ψ : D → α) (o : α → List D) (out : List D)
    (hc : Sees c env scope.names ρ ρc) (hI : IterJ c env n ρ g.iter g.target (L.map φ))
    (items : ∀ env', Fenv env' (capNames scope.names) scope.names → ∀ a ∈ L, ItemJ c env' n ρc (listK c elt (g :: gs) scope pos env') g 0 (φ a) (o a))
    (hψ : ∀ a ∈ L, ψ (φ a) = a) (ho : (L.map o).flatten = out) (hz : out.length ≤ sizeLine)
    (hasy : ∀ g' ∈ g :: gs, g'.is_async = 0) (hk : scope.kind = .function) (nd : (scope.names.map (·.1)).Nodup) (hfree : ∀ p ∈ scope.names, p.2 = .free → NM.lookup p.1 = some .cell)
    (hs : ∀ x, foldedSetIterable g.iter env x = pure x) (hsw : swapsWith (.ListComp elt (g :: gs) scope pos) (some (.Name y p)) spos.line env = pure true) (hy : Own env y) :
    Ex1 c env n ρ (.Assign [.Name y p] (.ListComp elt (g :: gs) scope pos) spos) (· = .next ((y, .list out) :: dropN y ρ)) := by
  have e : ((L.map φ).map fun d => o (ψ d)).flatten = out := by
    rw [← ho, List.map_map]
    congr 1
    exact List.map_congr_left fun a ha => by simp [hψ a ha]
  rw [← e]
  refine ex_assignComp (ρc := ρc) ⟨hasy, hk, CapOk.of F nd hfree, hI, hs, hc.ok, fun env' F' d hd => ?_, by rw [e]; exact hz⟩ hsw hy
  obtain ⟨a, ha, rfl⟩ := List.mem_map.mp hd
  rw [hψ a ha]
  exact items env' F' a ha

theorem item_end {elt : Expr} {gens : List Comprehension} {g : Comprehension} {scope : Scope} {pos : Pos} {depth : Nat} {d e : D} {b : Bool} (hg : gens[depth + 1]? = none) (ha : AsgJ c env n ρ g.target d ρ') (hsub : ∀ p ∈ ρ, p ∈ ρ') (ht : TestsJ c env n ρ' g.ifs b) (h : b = true → EvJ c env n ρ' elt e) :
    ItemJ c env n ρ (listK c elt gens scope pos env) g depth d (if b then [e] else []) := by
  refine ⟨ρ', ha, hsub, ?_⟩
  cases b with
  | true =>
    refine .inl ⟨ht, ?_⟩
    unfold innerT
    rw [hg]
    exact gath_elt (h rfl)
  | false => exact .inr ⟨ht, rfl⟩
theorem item_in {α : Type} {elt : Expr} {gens : List Comprehension} {scope : Scope} {pos : Pos} {g g2 : Comprehension} {depth : Nat} {d : D} {b : Bool} (L : List α) (φ : α → D) (ψ : D → α) (o : α → List D) (hg : gens[depth + 1]? = some g2) (ha : AsgJ c env n ρ g.target d ρ') (hsub : ∀ p ∈ ρ, p ∈ ρ') (ht : TestsJ c env n ρ' g.ifs b)
    (hasy : ∀ g ∈ gens, g.is_async = 0) (hI : b = true → IterJ c env n ρ' g2.iter g2.target (L.map φ)) (items : b = true → ∀ a ∈ L, ItemJ c env n ρ' (listK c elt gens scope pos env) g2 (depth + 1) (φ a) (o a))
    (hψ : ∀ a ∈ L, ψ (φ a) = a) (hs : ∀ x, foldedSetIterable g2.iter env x = pure x) :
    ItemJ c env n ρ (listK c elt gens scope pos env) g depth d (if b then (L.map o).flatten else []) := by
  refine ⟨ρ', ha, hsub, ?_⟩
  cases b with
  | false => exact .inr ⟨ht, rfl⟩
  | true =>
    refine .inl ⟨ht, ?_⟩
    have e : ((L.map φ).map fun d => o (ψ d)).flatten = (L.map o).flatten := by
      rw [List.map_map]
      congr 1
      exact List.map_congr_left fun a ha => by simp [hψ a ha]
    rw [if_pos rfl, ← e]
    refine gath_inner (k := listK c elt gens scope pos env) _ hg hasy (hI rfl) (fun d' hd => ?_) hs
    obtain ⟨a, ha, rfl⟩ := List.mem_map.mp hd
    rw [hψ a ha]
    exact items rfl a ha

/-! _law_due -/
noncomputable abbrev Rw := Int × Int × Int × Int
noncomputable abbrev rD (p : Rw) : D := .tup [.int p.1, .int p.2.1, .int p.2.2.1, .int p.2.2.2]
noncomputable def D.r : D → Rw | .tup [.int v, .int a, .int b, .int k] => (v, a, b, k) | _ => (0, 0, 0, 0)
noncomputable def mkIt (up down : Int) (p : Rw) : It := ⟨up * p.2.1, down * p.2.2.1, p.1, p.2.1, p.2.2.1, p.2.2.2⟩
noncomputable def likes (P : List Rw) (worth up down : Int) : List It := (P.filter fun p => p.1 == worth).map (mkIt up down)

theorem fn_due (T : Tp c) {P : List Rw} {worth up down : Int} {x : It} (hu : ∀ a, IntMulOk up a) (hd : ∀ a, IntMulOk down a) (hP : P.length < 64)
    (hs : FnJ c (.builtin "sorted") n [.list ((likes P worth up down).map It.d)] (.list ((sortL (likes P worth up down)).map It.d))) (hx : (sortL (likes P worth up down)).take 1 = [x]) (hl : (sortL (likes P worth up down)).length < 64) :
    FnJ c (.ref 147) (n + 1) [.list (P.map rD), .int worth, .int up, .int down] (.list [x.row]) := by
  have G : GlOk c (fnNames 147) [("sorted", .builtin "sorted")] := by walk_at "gl"
  refine FnJ.of (def147 T) _ G.ok rfl fun env F => ?_
  show ExJ c env n [("rows", .list (P.map rD)), ("worth", .int worth), ("up", .int up), ("down", .int down), ("sorted", .glob (.builtin "sorted"))] (fnBody 147) _
  conv => arg 5; whnf
  refine ExJ.assign (d := .list ((sortL (likes P worth up down)).map It.d)) (EvJ.callb (by walk_at "mem") (EvL.cons (ev_compL F [("worth", .int worth), ("up", .int up), ("down", .int down)] P rD D.r (fun p => if p.1 == worth then [(mkIt up down p).d] else []) _ (by walk_at "sees") (IterJ.list (by walk_at "ev")) (fun env' F' p hp => ?_) (fun _ _ => rfl) ?_ ?_ (by decide) rfl (by decide +kernel) (by decide +kernel) (fun x => rfl)) EvL.nil) hs) (by walk_at "own") ?_
  · refine item_if rfl (AsgJ.name (by walk_at "own")) (sub_drop rfl) (by walk_at "tst") (fun _ => ?_)
    exact EvJ.tuple (hz := by walk_at "sz") (EvL.cons (EvJ.bin (by walk_at "ev") (by walk_at "ev") (bin_mul (hu _))) (EvL.cons (EvJ.bin (by walk_at "ev") (by walk_at "ev") (bin_mul (hd _))) (EvL.cons (EvJ.name (d := rD p) mem_here) EvL.nil)))
  · rw [flat_if P (fun p => p.1 == worth) (fun p => (mkIt up down p).d)]
    simp [likes, Function.comp_def]
  · have := filter_le P fun p => p.1 == worth
    simp [likes, sizeLine]; omega
  · refine ExJ.ret (d := .list [x.row]) (ev_compL F [] [x] It.d (fun _ => x) (fun x => [x.row]) _ (by walk_at "sees") ?_ (fun env' F' y hy => ?_) (fun y hy => (List.mem_singleton.mp hy).symm) rfl (by walk_at "sz") (by decide) rfl (by decide +kernel) (by decide +kernel) (fun x => rfl)) rfl
    · rw [← hx, List.map_take]
      exact IterJ.list (slice_upto (k := 1) (by walk_at "ev") EvJ.int (by simp [sizeLine]; omega))
    · exact item_elt rfl (AsgJ.name (by walk_at "own")) (sub_drop rfl) (idx_tupT (ds := [.int y.u, .int y.v, y.row]) (by exact EvJ.name mem_here) (by walk_at "ev") (by decide) rfl (by decide))
end
section
variable {c : Wd} {env : Env} {ρ ρ' ρc : Ro} {n : Nat} {R : FlowD → Prop}

/-! _law_draw -/
noncomputable def drawL : List Int → Nat → List Int → List Int
  | [], _, xs => xs
  | m :: r, i, xs => drawL r (i + 1) (xs.set (i % 8) (xs.getD (i % 8) 0 + m % 5040))
noncomputable def draw0 : List Int := [0, 1, 2, 11, 1, 3, 0, 6]
noncomputable def hostsP (ns : List Int) : List Int := (drawL ns 0 draw0).map (· % 12)
noncomputable def totalP (ns : List Int) : Int := (drawL ns 0 draw0).sum + ns.length
theorem drawL_len : ∀ (ns : List Int) (i : Nat) (xs : List Int), (drawL ns i xs).length = xs.length
  | [], _, _ => rfl
  | m :: r, i, xs => by rw [drawL, drawL_len r]; simp

set_option maxHeartbeats 1000000 in
theorem fn_draw (T : Tp c) {ns : List Int} (hz : ns.length ≤ 64) : FnJ c (.ref 111) (n + 1) [.list (ns.map .int)] (.tup [.list ((hostsP ns).map .int), .int (totalP ns)]) := by
  have G : GlOk c (fnNames 111) [("sum", .builtin "sum")] := by walk_at "gl"
  refine FnJ.of (def111 T) _ G.ok rfl fun env F => ?_
  show ExJ c env n [("script", .list (ns.map .int)), ("sum", .glob (.builtin "sum"))] (fnBody 111) _
  conv => arg 5; whnf
  refine ExJ.ofZ (ExZ.ownList (x := "sums") (ds := [.int 0, .int 1, .int 2, .int 11, .int 1, .int 3, .int 0, .int 6]) (R' := (· = .ret (.tup [.list ((hostsP ns).map .int), .int (totalP ns)]))) (by walk_at "evl") (by walk_at "own") ?_ (fun d q => by cases q; rfl) (fun _ _ q => nomatch q) (hz := by walk_at "sz"))
  refine ExO.assign (d' := .int 0) (by walk_at "ev") (.int _) (by walk_at "own") (by decide) ?_
  refine ExO.seq (R' := fun r => ∃ ρ', r = .next ρ' (.list ((drawL ns 0 draw0).map .int)) ∧ (("place" : Str), D.int ns.length) ∈ ρ' ∧ (("sum" : Str), D.glob (.builtin "sum")) ∈ ρ') ?_ (fun ρ' d' q => ?_) (fun d q => by obtain ⟨_, q, _⟩ := q; cases q)
  · refine Ex1O.for (fun i ρ dd => ∃ xs : List Int, dd = .list (xs.map .int) ∧ xs.length = 8 ∧ drawL (ns.drop i) i xs = drawL ns 0 draw0 ∧ (("place" : Str), D.int i) ∈ ρ ∧ (("sum" : Str), D.glob (.builtin "sum")) ∈ ρ) (IterJ.list (slice_upto (k := 64) (ds := ns.map .int) (by walk_at "ev") EvJ.int (by simp [sizeLine]; omega)))
      ⟨draw0, rfl, rfl, rfl, mem_here, by walk_at "mem"⟩ (fun i di ρi dd hd hp => ?_) (fun ρ' d' hp => ?_)
    · obtain ⟨xs, rfl, h8, hdr, m1, m2⟩ := hp
      rw [List.take_of_length_le (by simp; omega)] at hd
      simp only [List.getElem?_map, Option.map_eq_some_iff] at hd
      obtain ⟨m, hm, rfl⟩ := hd
      have hdrop : ns.drop i = m :: ns.drop (i + 1) := by
        obtain ⟨hlt, he⟩ := List.getElem?_eq_some_iff.mp hm
        rw [List.drop_eq_getElem_cons hlt, he]
      rw [hdrop] at hdr
      have hlt8 : i % 8 < xs.length := by omega
      refine ⟨("number", .int m) :: dropN "number" ρi, fun a => AsgJ.out (AsgJ.name (by walk_at "own")) ?_, ?_⟩
      · exact sub_cons (mem_there (mem_drop (by decide) mem_here)) (sub_cons mem_here fun p hp => .tail _ (List.mem_filter.mpr ⟨.tail _ (List.mem_filter.mp hp).1, (List.mem_filter.mp hp).2⟩))
      refine ExO.sub (ρ' := [("number", .int m), ("place", .int i), ("sum", .glob (.builtin "sum"))]) ?_ (sub_cons mem_here (sub_cons (mem_there (mem_drop (by decide) m1)) (sub_cons (mem_there (mem_drop (by decide) m2)) sub_nil)))
      refine ExO.one (Ex1O.augItem (j := i % 8) (u := xs.getD (i % 8) 0) (v := m % 5040) (k := xs.getD (i % 8) 0 + m % 5040) ?_ ?_ (by walk_at "ev") rfl (by simp; omega)) ?_
      · have : ((i % 8 : Nat) : Int) = (i : Int) % 8 := by omega
        rw [this]
        walk_at "ev"
      · simp [List.getD, hlt8]
      · refine ExO.aug (k := (i : Int) + 1) (by walk_at "own") (by decide) (by walk_at "mem") (by walk_at "ev") rfl (ExO.nil ⟨xs.set (i % 8) (xs.getD (i % 8) 0 + m % 5040), by simp [List.map_set], by simpa using h8, hdr, mem_here, by walk_at "mem"⟩)
    · obtain ⟨xs, rfl, h8, hdr, m1, m2⟩ := hp
      have hl : ((ns.map D.int).take 64).length = ns.length := by simp; omega
      rw [hl, List.drop_length] at hdr
      rw [hl] at m1
      exact ⟨ρ', by rw [← hdr]; rfl, m1, m2⟩
  · obtain ⟨ρ'', q, m1, m2⟩ := q
    cases q
    have h8 := drawL_len ns 0 draw0
    refine ExO.sub (ρ' := [("place", .int ns.length), ("sum", .glob (.builtin "sum"))]) ?_ (sub_cons m1 (sub_cons m2 sub_nil))
    generalize hx : drawL ns 0 draw0 = xs at h8 ⊢
    refine ExO.ret (d' := .tup [.list ((hostsP ns).map .int), .int (totalP ns)]) (EvJ.tuple (hz := by walk_at "sz") (EvL.cons (ev_compL F [] xs .int D.i (fun x => [.int (x % 12)]) _ (by walk_at "sees") (IterJ.list (by walk_at "ev")) (fun env' F' x hx => item_elt rfl (AsgJ.name (by walk_at "own")) (sub_drop rfl) (by walk_at "ev")) (fun _ _ => rfl) ?_ ?_ (by decide) rfl (by decide +kernel) (by decide +kernel) (fun x => rfl)) (EvL.cons ?_ EvL.nil))) rfl
    · rw [flat_one]; simp [hostsP, hx]
    · have h9 : draw0.length = 8 := rfl
      simp [hostsP, hx, sizeLine]; omega
    · rw [totalP, hx]; walk_at "ev"
end
section
variable {c : Wd} {env : Env} {ρ ρ' ρc : Ro} {n : Nat} {R : FlowD → Prop}

/-! _law_nearest_first -/
noncomputable abbrev T3 := Int × Int × Int
noncomputable abbrev t3L (q : T3) : List D := [.int q.1, .int q.2.1, .int q.2.2]
noncomputable abbrev tD (q : T3) : D := .tup (t3L q)
noncomputable def D.t : D → T3 | .tup [.int v, .int a, .int b] => (v, a, b) | _ => (0, 0, 0)
noncomputable def t3key (q : T3) : Nat → Int | 0 => q.1 | 1 => q.2.1 | 2 => q.2.2 | _ => 0
noncomputable abbrev selU (up down : Int) : List (Nat × Int) := [(0, 1), (1, up), (2, down)]
noncomputable def bestP (up down : Int) : List T3 → T3
  | [] => (0, 0, 0)
  | r :: rs => firstP (selU up down) t3key 1 r rs
noncomputable def apart (b q : T3) : Bool := q.2.1 != b.2.1 && (q.2.2 != b.2.2 && true)
noncomputable def greedyP (up down : Int) : Nat → List T3 → Int
  | 0, _ => 0
  | _, [] => 0
  | k + 1, r :: rs => (bestP up down (r :: rs)).1 + greedyP up down k ((r :: rs).filter (apart (bestP up down (r :: rs))))
noncomputable def rows0 (pr : Nat → Nat → Int) : List T3 := (List.range 4).flatMap fun i => (List.range 4).map fun j => (pr i j, (i : Int), (j : Int))
noncomputable abbrev prD (pr : Nat → Nat → Int) : D := .list ((List.range 4).map fun i => .list ((List.range 4).map fun j => .int (pr i j)))
noncomputable def D.nn : D → Nat | .int i => i.toNat | _ => 0

theorem firstP_mem {α : Type} {sel : List (Nat × Int)} {key : α → Nat → Int} {turn : Int} : ∀ (l : List α) (a : α), firstP sel key turn a l ∈ a :: l
  | [], a => .head _
  | b :: l, a => by
    show firstP sel key turn (if _ then b else a) l ∈ _
    split
    · exact .tail _ (firstP_mem l b)
    · rcases List.mem_cons.mp (firstP_mem l a) with q | q
      · rw [q]; exact .head _
      · exact .tail _ (.tail _ q)
theorem bestP_mem {up down : Int} {r : T3} {rs : List T3} : bestP up down (r :: rs) ∈ r :: rs := firstP_mem rs r
theorem pr_at {pr : Nat → Nat → Int} {i : Nat} (hi : i < 4) : ((List.range 4).map fun i => D.list ((List.range 4).map fun j => .int (pr i j)))[((i : Nat) : Int).toNat]? = some (.list ((List.range 4).map fun j => .int (pr i j))) := by
  simp [hi]
theorem pr_at2 {pr : Nat → Nat → Int} {i j : Nat} (hj : j < 4) : ((List.range 4).map fun j => D.int (pr i j))[((j : Nat) : Int).toNat]? = some (.int (pr i j)) := by
  simp [hj]
theorem mul_one_ok {a : Int} : IntMulOk a 1 := IntMulOk.of_right (by decide +kernel)

theorem fn_greedy (T : Tp c) {pr : Nat → Nat → Int} {up down : Int} : FnJ c (.ref 152) (n + 3) [prD pr, .inst (selD (selU up down))] (.int (greedyP up down 16 (rows0 pr))) := by
  have G : GlOk c (fnNames 152) [("range", .type "range"), ("_law_first", .ref 142)] := by walk_at "gl"
  refine FnJ.of (def152 T) _ G.ok rfl fun env F => ?_
  show ExJ c env (n + 2) [("price", prD pr), ("comp", .inst (selD (selU up down))), ("range", .glob (.type "range")), ("_law_first", .glob (.ref 142))] (fnBody 152) _
  conv => arg 5; whnf
  refine ExJ.one (ex_assignL F [("price", prD pr), ("range", .glob (.type "range"))] (List.range 4) (fun (i : Nat) => .int (i : Int)) D.nn (fun i => ((List.range 4).map fun j => [tD (pr i j, (i : Int), (j : Int))]).flatten) ((rows0 pr).map tD) (by walk_at "sees") (IterJ.range (m := 4) (by walk_at "mem") EvJ.int (by decide)) (fun env' F' i hi => ?_) (fun _ _ => rfl) rfl (by walk_at "sz") (by decide) rfl (by decide +kernel) (by decide +kernel) (fun x => rfl) (swaps_local F (by decide +kernel) rfl (by decide +kernel)) (by walk_at "own")) ?_
  · have hi4 : i < 4 := by simpa using hi
    refine item_in (b := true) (List.range 4) (fun (j : Nat) => .int (j : Int)) D.nn (fun j => [tD (pr i j, (i : Int), (j : Int))]) rfl (AsgJ.name (by walk_at "own")) (sub_drop rfl) TestsJ.nil (by decide) (fun _ => IterJ.range (m := 4) (by walk_at "mem") EvJ.int (by decide)) (fun _ j hj => ?_) (fun _ _ => rfl) (fun x => rfl)
    have hj4 : j < 4 := by simpa using hj
    refine item_end (b := true) rfl (AsgJ.name (by walk_at "own")) (fun p hp => ?_) TestsJ.nil (fun _ => ?_)
    · exact (sub_drop (x := "j") (d := .int j) (ρ := ("i", .int i) :: dropN "i" [("price", prD pr), ("range", .glob (.type "range"))]) rfl) p hp
    · refine EvJ.tuple (hz := by walk_at "sz") (EvL.cons (idx_listT (idx_listT (by walk_at "ev") (by walk_at "ev") (by omega) (pr_at hi4) (by omega)) (by walk_at "ev") (by omega) (pr_at2 hj4) (by omega)) (EvL.cons (by walk_at "ev") (EvL.cons (by walk_at "ev") EvL.nil)))
  refine ExJ.assign (d := .int 0) (by walk_at "ev") (by walk_at "own") ?_
  have hf : ∀ r rs, rs.length < 1000 → FnJ c (.ref 142) (n + 2) [.list ((r :: rs).map tD), .inst (selD (selU up down)), .int 1] (tD (bestP up down (r :: rs))) := fun r rs hz =>
    fn_first (φ := t3L) (key := t3key) T (fun a _ p hp => by
      rcases List.mem_cons.mp hp with rfl | hp
      · exact ⟨rfl, Nat.le_of_ble_eq_true rfl⟩
      · rcases List.mem_cons.mp hp with rfl | hp
        · exact ⟨rfl, Nat.le_of_ble_eq_true rfl⟩
        · rcases List.mem_cons.mp hp with rfl | hp
          · exact ⟨rfl, Nat.le_of_ble_eq_true rfl⟩
          · cases hp) (fun a _ b _ => mul_one_ok) hz
  generalize hrows : rows0 pr = rows
  have hlen : rows.length ≤ 16 := by rw [← hrows]; exact Nat.le_of_eq rfl
  generalize hk : (16 : Nat) = k at hlen ⊢
  have hk1 : k < 1000 := by omega
  generalize hpaid : greedyP up down k rows = total
  refine ExJ.seq (R' := fun r => ∃ ρ', r = .next ρ' ∧ (("paid" : Str), D.int total) ∈ ρ') (Ex1.while (k₀ := k) (fun k ρ => ∃ rows paid, rows.length ≤ k ∧ k < 1000 ∧ paid + greedyP up down k rows = total ∧ (("rows" : Str), D.list (rows.map tD)) ∈ ρ ∧ (("paid" : Str), D.int paid) ∈ ρ ∧ (("comp" : Str), D.inst (selD (selU up down))) ∈ ρ ∧ (("_law_first" : Str), D.glob (.ref 142)) ∈ ρ)
    ⟨rows, 0, hlen, hk1, by omega, by walk_at "mem", by walk_at "mem", by walk_at "mem", by walk_at "mem"⟩ ?_) (fun ρ' q => ?_) (fun d q => by obtain ⟨_, q, _⟩ := q; cases q)
  · rintro k ρi ⟨rows, paid, hlen, hk1, hp, m1, m2, m3, m4⟩
    refine ⟨_, TestJ.list (EvJ.name m1) (by rw [List.length_map]; omega), fun hb => ?_, fun hb => ?_⟩
    · cases rows with
      | nil => cases hb
      | cons r rs =>
        cases k with
        | zero => simp at hlen
        | succ k =>
          have hf' := hf r rs (by simp at hlen; omega)
          have hp' : paid + ((bestP up down (r :: rs)).1 + greedyP up down k ((r :: rs).filter (apart (bestP up down (r :: rs))))) = total := hp
          refine ExJ.sub (ρ' := [("rows", .list ((r :: rs).map tD)), ("paid", .int paid), ("comp", .inst (selD (selU up down))), ("_law_first", .glob (.ref 142))]) ?_ (sub_cons m1 (sub_cons m2 (sub_cons m3 (sub_cons m4 sub_nil))))
          have hbm := bestP_mem (up := up) (down := down) (r := r) (rs := rs)
          generalize bestP up down (r :: rs) = best at hf' hp' hbm
          have hlt : ((r :: rs).filter (apart best)).length < (r :: rs).length := by
            refine List.length_filter_lt_length_iff_exists.mpr ⟨best, hbm, ?_⟩
            simp [apart]
          generalize r :: rs = rows at hf' hp' hbm hlt hlen ⊢
          refine ExJ.assign (d := tD best) (by walk_at "ev") (by walk_at "own") ?_
          refine ExJ.aug (i := paid) (j := best.1) (k := paid + best.1) (by walk_at "own") (by walk_at "mem") (by walk_at "ev") rfl ?_
          refine ExJ.one (ex_assignL F [("best", tD best)] rows tD D.t (fun q => if apart best q then [tD q] else []) ((rows.filter (apart best)).map tD) (by walk_at "sees") (IterJ.list (by walk_at "ev")) (fun env' F' q hq => ?_) (fun _ _ => rfl) (flat_if rows (apart best) tD) ?_ (by decide) rfl (by decide +kernel) (by decide +kernel) (fun x => rfl) (swaps_local F (by decide +kernel) rfl (by decide +kernel)) (by walk_at "own")) (ExJ.nil ⟨k, Nat.lt_succ_self _, rows.filter (apart best), paid + best.1, by omega, by omega, by omega, by walk_at "mem", by walk_at "mem", by walk_at "mem", by walk_at "mem"⟩)
          · refine item_if rfl (AsgJ.name (by walk_at "own")) (sub_drop rfl) (TestJ.bool (AllJ.and_cons (by walk_at "tst") fun _ => AllJ.and_cons (by walk_at "tst") fun _ => AllJ.and_nil)) (fun _ => by walk_at "ev")
          · rw [List.length_map]; simp [sizeLine]; omega
    · cases rows with
      | cons r rs => cases hb
      | nil =>
        refine ⟨ρi, rfl, ?_⟩
        have : greedyP up down k [] = 0 := by cases k <;> rfl
        rw [this, Int.add_zero] at hp
        rw [← hp]; exact m2
  · obtain ⟨ρ'', q, m⟩ := q
    cases q
    exact ExJ.ret (EvJ.name m) rfl
end
section
variable {c : Wd} {env : Env} {ρ ρ' ρc : Ro} {n : Nat} {R : FlowD → Prop}

noncomputable abbrev Bk := List (Str × (Int × Int))
noncomputable def addB (m : Bk) (k : Str) (one : Int × Int) : Bk := putK m k (match atK m k with | some p => (one.1 + p.1, one.2 + p.2) | none => one)
noncomputable def joinB (t s : Bk) : Bk := s.foldl (fun m q => addB m q.1 q.2) t
theorem putK_map {α β : Type} (f : α → β) (m : List (Str × α)) (k : Str) (v : α) : putK (m.map fun q => (q.1, f q.2)) k (f v) = (putK m k v).map fun q => (q.1, f q.2) := by
  unfold putK
  have e : (m.map fun q => (q.1, f q.2)).any (fun kv => decide (kv.1 = k)) = m.any (fun kv => decide (kv.1 = k)) := by rw [List.any_map]; rfl
  rw [e]
  split
  · rw [List.map_map, List.map_map]
    refine List.map_congr_left fun q _ => ?_
    simp only [Function.comp_def]
    split <;> simp_all
  · simp
theorem fold_len {α β : Type} (f : List α → β → List α) (hf : ∀ m q, (f m q).length ≤ m.length + 1) : ∀ (l : List β) (m : List α), (l.foldl f m).length ≤ m.length + l.length
  | [], m => by simp
  | q :: l, m => by
    have h1 := fold_len f hf l (f m q)
    have h2 := hf m q
    simp only [List.foldl_cons, List.length_cons]; omega

theorem drop2_out {x k1 k2 : Str} {g e1 e2 : D} (h1 : (x != k1) = true) (h2 : (x != k2) = true) : ∀ p ∈ (x, g) :: (k2, e2) :: dropN k2 ((k1, e1) :: dropN k1 ρ), p ∈ (k2, e2) :: dropN k2 ((k1, e1) :: dropN k1 ((x, g) :: ρ)) := fun p hp => by
  rcases List.mem_cons.mp hp with rfl | hp
  · exact mem_there (mem_drop h2 (mem_there (mem_drop h1 mem_here)))
  · rcases List.mem_cons.mp hp with rfl | hp
    · exact mem_here
    · obtain ⟨h3, h4⟩ := List.mem_filter.mp hp
      refine mem_there (List.mem_filter.mpr ⟨?_, h4⟩)
      rcases List.mem_cons.mp h3 with rfl | h3
      · exact mem_here
      · obtain ⟨h5, h6⟩ := List.mem_filter.mp h3
        exact mem_there (List.mem_filter.mpr ⟨mem_there h5, h6⟩)

theorem sub2 {L : Ro} {x y : Str} {d e : D} (h : L.all (fun p => p.1 != x && p.1 != y) = true) (hs : ∀ p ∈ L, p ∈ ρ) : ∀ p ∈ L, p ∈ (y, e) :: dropN y ((x, d) :: dropN x ρ) := fun p hp => by
  have := List.all_eq_true.mp h p hp
  rw [Bool.and_eq_true] at this
  exact .tail _ (List.mem_filter.mpr ⟨.tail _ (List.mem_filter.mpr ⟨hs p hp, this.1⟩), this.2⟩)
theorem pD_imm (p : Int × Int) : Imm (pD p) := .tup (.cons (.int _) (.cons (.int _) .nil))

theorem fn_add (T : Tp c) {P : Addr} (TT : Tab c 98 P) {t s : Bk} (hn : (t.map (·.1)).Nodup) (ht : t.length ≤ 1000) (hs : s.length ≤ 1000) : FnZ c TT.z (.ref 99) (n + 1) [bD t, bD s] (bD (joinB t s)) := by
  have G : GlOk c (fnNames 99) [("isinstance", .builtin "isinstance"), ("tuple", .type "tuple"), ("zip", .type "zip")] := by walk_at "gl"
  refine FnZ.of (def99 T) _ G.ok rfl fun env F hcd => ?_
  have hcode : env.code = .ref 98 := hcd _ _ (by rw [T.K]; rfl) rfl
  show ExZ c TT.z env n [("target", bD t), ("source", bD s), ("isinstance", .glob (.builtin "isinstance")), ("tuple", .glob (.type "tuple")), ("zip", .glob (.type "zip"))] (fnBody 99) _
  conv => arg 6; whnf
  refine ExZ.ownDict (x := "new_callers") (R' := (· = .ret (bD (joinB t s)))) (by walk_at "own") ?_ (fun d q => by cases q; rfl) (fun _ _ q => nomatch q)
  refine ExO.seq (R' := fun r => ∃ ρ', r = .next ρ' (bD t) ∧ ∀ p ∈ [(("source" : Str), bD s), ("isinstance", .glob (.builtin "isinstance")), ("tuple", .glob (.type "tuple")), ("zip", .glob (.type "zip"))], p ∈ ρ') ?_ (fun ρ' d' q => ?_) (fun d q => by obtain ⟨_, q, _⟩ := q; cases q)
  · refine Ex1O.for (fun i ρ dd => dd = bD ((t.take i).foldl (fun m p => putK m p.1 p.2) []) ∧ ∀ p ∈ [(("source" : Str), bD s), ("isinstance", .glob (.builtin "isinstance")), ("tuple", .glob (.type "tuple")), ("zip", .glob (.type "zip"))], p ∈ ρ) (IterJ.items (by walk_at "ev"))
      ⟨rfl, by walk_at "subs"⟩ (fun i di ρi dd hd hp => ?_) (fun ρ' d' hp => ?_)
    · obtain ⟨rfl, hsub⟩ := hp
      simp only [List.getElem?_map, Option.map_eq_some_iff] at hd
      obtain ⟨q, ⟨p, hp, rfl⟩, rfl⟩ := hd
      have hfold : (t.take (i + 1)).foldl (fun m p => putK m p.1 p.2) [] = putK ((t.take i).foldl (fun m p => putK m p.1 p.2) []) p.1 p.2 := by
        rw [List.take_add_one, hp, List.foldl_append]; rfl
      rw [hfold]
      have hlen := fold_len (fun (m : Bk) (p : Str × (Int × Int)) => putK m p.1 p.2) (fun m q => putK_length ..) (t.take i) []
      have h1 : (t.take i).length ≤ t.length := by simp; omega
      refine ⟨_, fun a => AsgJ.out (AsgJ.tup (StoresJ.cons (by walk_at "own") (StoresJ.cons (by walk_at "own") StoresJ.nil))) (drop2_out (by decide) (by decide)), ?_⟩
      generalize (t.take i).foldl (fun m p => putK m p.1 p.2) [] = m at hlen ⊢
      refine ExO.last (Ex1O.mono (Ex1O.setKey (d' := pD p.2) (k := p.1) (by walk_at "ev") (pD_imm _) (by walk_at "ev") (by rw [List.length_map]; simp [sizeLine] at hlen ⊢; omega)) fun r e => ?_)
      subst e
      exact ⟨by rw [putK_map pD], sub2 rfl hsub⟩
    · obtain ⟨rfl, hsub⟩ := hp
      refine ⟨ρ', ?_, hsub⟩
      rw [List.length_map, List.length_map, List.take_length]
      have := madeK_nodup hn
      unfold madeK at this
      rw [this]
  · obtain ⟨ρ'', q, hsub⟩ := q
    cases q
    refine ExO.sub ?_ hsub
    refine ExO.seq (R' := fun r => ∃ ρ', r = .next ρ' (bD (joinB t s))) ?_ (fun ρ' d' q => ?_) (fun d q => by obtain ⟨_, q⟩ := q; cases q)
    · refine Ex1O.for (fun i ρ dd => dd = bD (joinB t (s.take i)) ∧ ∀ p ∈ [(("isinstance" : Str), D.glob (.builtin "isinstance")), ("tuple", .glob (.type "tuple")), ("zip", .glob (.type "zip"))], p ∈ ρ) (IterJ.items (by walk_at "ev"))
        ⟨rfl, by walk_at "subs"⟩ (fun i di ρi dd hd hp => ?_) (fun ρ' d' hp => ?_)
      · obtain ⟨rfl, hsub⟩ := hp
        simp only [List.getElem?_map, Option.map_eq_some_iff] at hd
        obtain ⟨q, ⟨p, hp, rfl⟩, rfl⟩ := hd
        have hfold : joinB t (s.take (i + 1)) = addB (joinB t (s.take i)) p.1 p.2 := by
          unfold joinB
          rw [List.take_add_one, hp, List.foldl_append]; rfl
        rw [hfold]
        have hlen := fold_len (fun (m : Bk) (q : Str × (Int × Int)) => addB m q.1 q.2) (fun m q => putK_length ..) (s.take i) t
        have h1 : (s.take i).length ≤ s.length := by simp; omega
        refine ⟨_, fun a => AsgJ.out (AsgJ.tup (StoresJ.cons (by walk_at "own") (StoresJ.cons (by walk_at "own") StoresJ.nil))) (drop2_out (by decide) (by decide)), ?_⟩
        change (joinB t (s.take i)).length ≤ _ at hlen
        generalize joinB t (s.take i) = m at hlen ⊢
        have hsz : (m.map fun q => (q.1, pD q.2)).length ≤ sizeLine := by rw [List.length_map]; simp [sizeLine]; omega
        refine ExO.sub (ρ' := [("caller", pD p.2), ("func", .str p.1), ("isinstance", .glob (.builtin "isinstance")), ("tuple", .glob (.type "tuple")), ("zip", .glob (.type "zip"))]) ?_ (sub_cons mem_here (sub_cons (mem_there (mem_drop (by decide) mem_here)) (sub2 rfl hsub)))
        have hout : ∀ q ∈ [(("isinstance" : Str), D.glob (.builtin "isinstance")), ("tuple", .glob (.type "tuple")), ("zip", .glob (.type "zip"))], q ∈ [(("caller" : Str), pD p.2), ("func", .str p.1), ("isinstance", .glob (.builtin "isinstance")), ("tuple", .glob (.type "tuple")), ("zip", .glob (.type "zip"))] := fun q hq => .tail _ (.tail _ hq)
        refine ExO.last (Ex1O.if (b := (atK (m.map fun q => (q.1, pD q.2)) p.1).isSome) (by walk_at "tst") (fun hb => ?_) fun hb => ?_)
        · rw [atK_map pD] at hb
          cases hat : atK m p.1 with
          | none => rw [hat] at hb; cases hb
          | some v =>
            refine ExO.last (Ex1O.if (b := true) (TestJ.val (EvJ.callb (by walk_at "mem") (by walk_at "evl") fn_isinstance_tuple)) (fun _ => ?_) fun q => nomatch q)
            refine ExO.last (Ex1O.mono (Ex1O.setKeyZ (d' := pD (p.2.1 + v.1, p.2.2 + v.2)) (k := p.1) (ev_tuple_gen TT hcode (by walk_at "mem") (by walk_at "mem") (by walk_at "ev") (idx_dict (d := pD v) (by walk_at "ev") (by walk_at "ev") (by rw [atK_map pD, hat]; rfl)) rfl rfl (by decide) (by decide +kernel) (by decide +kernel) (by decide +kernel) (by decide) rfl (by decide) (by decide)) (pD_imm _) (by walk_at "ev") hsz) fun r e => ?_)
            subst e
            exact ⟨by rw [putK_map pD]; simp only [addB, hat], hout⟩
        · rw [atK_map pD] at hb
          cases hat : atK m p.1 with
          | some v => rw [hat] at hb; cases hb
          | none =>
            refine ExO.last (Ex1O.mono (Ex1O.setKey (d' := pD p.2) (k := p.1) (by walk_at "ev") (pD_imm _) (by walk_at "ev") hsz) fun r e => ?_)
            subst e
            exact ⟨by rw [putK_map pD]; simp only [addB, hat], hout⟩
      · obtain ⟨rfl, hsub⟩ := hp
        refine ⟨ρ', ?_⟩
        rw [List.length_map, List.length_map, List.take_length]
    · obtain ⟨ρ'', q⟩ := q
      cases q
      exact ExO.ret (by walk_at "ev") rfl
end
section
variable {c : Wd} {z : Zt c} {env : Env} {ρ ρ' ρc : Ro} {n : Nat} {R : FlowD → Prop}

theorem EvJ.dict0 {lp : Pos} : EvJ c env n ρ (.Dict [] [] lp) (.dict []) := fun A s X t => by
  refine wpAny_Dict_empty ?_
  obtain ⟨o, ho, hd⟩ := Heap.dictOf_iff.mp (Heap.DictOf.new (knd := strKind c.prog c.w) s.heap)
  obtain ⟨ep, hd'⟩ := Heap.DictOf.dictAt (Heap.dictOf_iff.mpr ⟨_, ho, hd⟩)
  exact ⟨.of (fun b o _ e => Heap.get?_push_of_some _ e) (by show _ ≤ (s.heap.push _).objs.size; rw [push_size]; exact Nat.le_succ _), .dict hd' (fun q => Nat.lt_irrefl _ (t.x _ q)) (not_modules t (.refl ..)) .nil⟩

theorem Ex1O.assignT {x : Str} {d d' : D} {elts : List Expr} {k : Nat} {tp pos : Pos} {e : Expr} (h : EvJ c env n ((x, d) :: ρ) e d') (hi : Imm d') (ha : ∀ a, AsgJ c env n ((x, .glob (.ref a)) :: ρ) (.Tuple elts k tp) d' ((x, .glob (.ref a)) :: ρ'))
    (hs : swapsWithSole [.Tuple elts k tp] e pos.line env = pure false := by rfl) (hw : swappedStores [.Tuple elts k tp] e env = pure none := by rfl) :
    Ex1O c z env n ρ x d (.Assign [.Tuple elts k tp] e pos) (· = .next ρ' d) := fun A s X a t => by
  refine Assign_Tuple (wpAny_mono (h A s _ t.free) (fun v s₁ q => ?_) fun _ _ f => f) hs hw
  have t₁ := t.ext q.1
  exact wpAny_mono (ha a A s₁ X v t₁.st (t.lock q.1 hi q.2)) (fun _ s₂ q' => ⟨q.1.no.trans (Ext.toZ (q'.1.mono fun _ _ q => .inl q)), z.ext (z.ext0 t.inv q.1) (q'.1.mono fun _ _ q => .inl q) t.lo', _, rfl, rfl, q'.2, t₁.holds.ext q'.1 (fun b q => t.loc b (.inl q)) fun q => t.la q.locA⟩) fun _ _ f => f

/-! the books -/
noncomputable def oneP (i : Nat) : Int × Int := if i < 4 then (1, 0) else (0, 1)
noncomputable def addW (m : Bk) (w : List Str) (one : Int × Int) : Bk := w.foldl (fun m k => addB m k one) m
noncomputable def bookP : List (List Str) → Nat → Bk → Bk
  | [], _, m => m
  | w :: r, i, m => bookP r (i + 1) (addW m w (oneP i))
theorem joinB_one (m : Bk) (w : List Str) (one : Int × Int) : joinB m (w.map fun k => (k, one)) = addW m w one := by
  unfold joinB addW; rw [List.foldl_map]
theorem putK_keys {α : Type} (m : List (Str × α)) (k : Str) (v : α) : (putK m k v).map (·.1) = if k ∈ m.map (·.1) then m.map (·.1) else m.map (·.1) ++ [k] := by
  unfold putK
  have e : (m.any fun kv => decide (kv.1 = k)) = true ↔ k ∈ m.map (·.1) := by
    rw [List.any_eq_true]
    constructor
    · rintro ⟨x, hx, e⟩; exact List.mem_map.mpr ⟨x, hx, of_decide_eq_true e⟩
    · intro h; obtain ⟨x, hx, e⟩ := List.mem_map.mp h; exact ⟨x, hx, decide_eq_true e⟩
  by_cases q : k ∈ m.map (·.1)
  · rw [if_pos (e.mpr q), if_pos q, List.map_map]
    refine List.map_congr_left fun x _ => ?_
    simp only [Function.comp_def]; split <;> rfl
  · rw [if_neg (fun h => q (e.mp h)), if_neg q]; simp
theorem addB_nodup {m : Bk} {k : Str} {one : Int × Int} (h : (m.map (·.1)).Nodup) : ((addB m k one).map (·.1)).Nodup := by
  unfold addB
  rw [putK_keys]
  split
  · exact h
  · rename_i q
    rw [List.nodup_append]
    exact ⟨h, by simp, fun a ha b hb e => by simp at hb; subst hb; exact q (e ▸ ha)⟩
theorem addW_nodup {one : Int × Int} : ∀ {w : List Str} {m : Bk}, (m.map (·.1)).Nodup → ((addW m w one).map (·.1)).Nodup
  | [], m, h => h
  | k :: w, m, h => addW_nodup (w := w) (m := addB m k one) (addB_nodup h)
theorem addB_len (m : Bk) (k : Str) (one : Int × Int) : (addB m k one).length ≤ m.length + 1 := putK_length ..
theorem addW_len (m : Bk) (w : List Str) (one : Int × Int) : (addW m w one).length ≤ m.length + w.length := fold_len (fun m k => addB m k one) (fun m k => addB_len m k one) w m
theorem bookP_nodup : ∀ {W : List (List Str)} {i : Nat} {m : Bk}, (m.map (·.1)).Nodup → ((bookP W i m).map (·.1)).Nodup
  | [], _, _, h => h
  | w :: r, i, m, h => bookP_nodup (W := r) (addW_nodup h)
theorem bookP_len : ∀ {W : List (List Str)} {i : Nat} {m : Bk}, (∀ w ∈ W, w.length ≤ 10) → (bookP W i m).length ≤ m.length + 10 * W.length
  | [], _, _, _ => by simp [bookP]
  | w :: r, i, m, h => by
    have h1 := bookP_len (W := r) (i := i + 1) (m := addW m w (oneP i)) fun w hw => h w (.tail _ hw)
    have h2 := addW_len m w (oneP i)
    have h3 := h w (.head _)
    simp only [bookP, List.length_cons]; omega
theorem bookP_snoc : ∀ (W : List (List Str)) (i : Nat) (m : Bk) (w : List Str), bookP (W ++ [w]) i m = addW (bookP W i m) w (oneP (i + W.length))
  | [], i, m, w => rfl
  | v :: r, i, m, w => by
    show bookP (r ++ [w]) (i + 1) _ = _
    rw [bookP_snoc r]
    simp only [bookP, List.length_cons]
    rw [show i + 1 + r.length = i + (r.length + 1) by omega]

noncomputable abbrev wsD (W : List (List Str)) : D := .list (W.map wD)

theorem fn_book (T : Tp c) {P : Addr} (TT : Tab c 98 P) {W : List (List Str)} (h8 : W.length = 8) (hw : ∀ w ∈ W, w.Nodup ∧ w.length ≤ 10) : FnZ c TT.z (.ref 157) (n + 2) [wsD W] (bD (bookP W 0 [])) := by
  have G : GlOk c (fnNames 157) [("range", .type "range"), ("add_callers", .ref 99)] := by walk_at "gl"
  refine FnZ.of (def157 T) _ G.ok rfl fun env F hcd => ?_
  show ExZ c TT.z env (n + 1) [("ways", wsD W), ("range", .glob (.type "range")), ("add_callers", .glob (.ref 99))] (fnBody 157) _
  conv => arg 6; whnf
  refine ExZ.assign (d := bD []) EvJ.dict0 (by walk_at "own") ?_
  refine ExZ.seq (R' := fun r => ∃ ρ', r = .next ρ' ∧ (("book" : Str), bD (bookP W 0 [])) ∈ ρ') ?_ (fun ρ' q => ?_) (fun d q => by obtain ⟨_, q, _⟩ := q; cases q)
  · refine Ex1Z.for (fun i ρ => ∀ p ∈ [(("book" : Str), bD (bookP (W.take i) 0 [])), ("ways", wsD W), ("add_callers", .glob (.ref 99))], p ∈ ρ) (IterJ.range (m := 8) (by walk_at "mem") EvJ.int (by decide)) (sub_cons mem_here (by walk_at "subs")) (fun i di ρi hd hp => ?_) (fun ρ' hp => ?_)
    · obtain rfl := rng_get hd
      have hi : i < 8 := by
        have := (List.getElem?_eq_some_iff.mp hd).1
        simpa [rng] using this
      have hwi : i < W.length := by omega
      have hget : W[i]? = some W[i] := List.getElem?_eq_getElem hwi
      have hsn : bookP (W.take (i + 1)) 0 [] = addW (bookP (W.take i) 0 []) W[i] (oneP i) := by
        rw [List.take_add_one, hget]
        show bookP (W.take i ++ [W[i]]) 0 [] = _
        rw [bookP_snoc, show 0 + (W.take i).length = i by rw [List.length_take]; omega]
      obtain ⟨hnd, hlen⟩ := hw W[i] (List.getElem_mem hwi)
      have hat : (W.map wD)[((i : Nat) : Int).toNat]? = some (wD W[i]) := by simp [hwi]
      rw [hsn]
      have bn : ((bookP (W.take i) 0 []).map (·.1)).Nodup := bookP_nodup .nil
      have bl : (bookP (W.take i) 0 []).length ≤ 1000 := by
        have := bookP_len (W := W.take i) (i := 0) (m := []) fun w h => (hw w (List.mem_of_mem_take h)).2
        simp at this; omega
      generalize bookP (W.take i) 0 [] = m at hp bn bl ⊢
      generalize W[i] = w at hnd hlen hat ⊢
      refine ⟨_, AsgJ.name (by walk_at "own"), ?_⟩
      refine ExZ.sub (ρ' := [("place", .int i), ("book", bD m), ("ways", wsD W), ("add_callers", .glob (.ref 99))]) ?_ (sub_cons mem_here (fun p h => mem_there (List.mem_filter.mpr ⟨hp p h, by
        have : ([(("book" : Str), bD m), ("ways", wsD W), ("add_callers", .glob (.ref 99))].all fun p => p.1 != "place") = true := rfl
        exact List.all_eq_true.mp this p h⟩)))
      refine ExZ.assign (d := pD (oneP i)) (EvJ.ite (b := decide ((i : Int) < 4)) (by walk_at "tst") (fun h => ?_) fun h => ?_) (by walk_at "own") ?_
      · have : i < 4 := by have := of_decide_eq_true h; omega
        rw [oneP, if_pos this]; walk_at "ev"
      · have : ¬ i < 4 := by have := of_decide_eq_false h; omega
        rw [oneP, if_neg this]; walk_at "ev"
      generalize oneP i = one
      refine ExZ.assignZ (d := bD (addW m w one)) (EvZ.call (ds := [bD m, bD (w.map fun k => (k, one))]) (by walk_at "mem") (by walk_at "def") (EvL.cons (by walk_at "ev") (EvL.cons ?_ EvL.nil)) ?_) (by walk_at "own") (ExZ.nil (by walk_at "subs"))
      · refine ev_dictL F [("one", pD one)] w .str D.s (fun k => [(k, pD one)]) _ (by walk_at "sees") (IterJ.list (idx_listT (by walk_at "ev") (by walk_at "ev") (by omega) hat (by omega))) (fun env' F' k hk => item_pair rfl (AsgJ.name (by walk_at "own")) (sub_drop rfl) (by walk_at "ev") (by walk_at "ev")) (fun _ _ => rfl) ?_ ?_ (by decide) rfl (by decide +kernel) (by decide +kernel) (fun x => rfl)
        · rw [flat_one, madeK_nodup]
          · rw [List.map_map]; rfl
          · rw [List.map_map]; exact (List.map_id w).symm ▸ hnd
        · rw [flat_one]; simp [sizeLine]; omega
      · rw [← joinB_one]
        exact fn_add T TT bn bl (by rw [List.length_map]; omega)
    · refine ⟨ρ', rfl, ?_⟩
      have := hp _ (.head _)
      rwa [show (rng 8).length = W.length by rw [h8]; rfl, List.take_length] at this
  · obtain ⟨ρ'', q, h⟩ := q
    cases q
    exact ExZ.ret (EvJ.name h) rfl

theorem IterJ.id {e target : Expr} {ds : List D} (h : IterJ c env n ρ e target ds) : IterJ c env n ρ e target ds := h
theorem fn_pbook (T : Tp c) {W : List (List Str)} (h8 : W.length = 8) (hw : ∀ w ∈ W, w.length ≤ 10) : FnJ c (.ref 164) (n + 2) [wsD W] (bD (bookP W 0 [])) := by
  have G : GlOk c (fnNames 164) [("range", .type "range")] := by walk_at "gl"
  refine FnJ.of (def164 T) _ G.ok rfl fun env F => ?_
  show ExJ c env (n + 1) [("ways", wsD W), ("range", .glob (.type "range"))] (fnBody 164) _
  conv => arg 5; whnf
  refine ExJ.ofZ (ExZ.ownDict (x := "book") (R' := (· = .ret (bD (bookP W 0 [])))) (by walk_at "own") ?_ (fun d q => by cases q; rfl) (fun _ _ q => nomatch q))
  refine ExO.seq (R' := fun r => ∃ ρ', r = .next ρ' (bD (bookP W 0 []))) ?_ (fun ρ' d' q => ?_) (fun d q => by obtain ⟨_, q⟩ := q; cases q)
  · refine Ex1O.for (fun i ρ dd => dd = bD (bookP (W.take i) 0 []) ∧ (("ways" : Str), wsD W) ∈ ρ) (IterJ.range (m := 8) (by walk_at "mem") EvJ.int (by decide)) ⟨rfl, by walk_at "mem"⟩ (fun i di ρi dd hd hp => ?_) (fun ρ' d' hp => ?_)
    · obtain ⟨rfl, hp⟩ := hp
      obtain rfl := rng_get hd
      have hi : i < 8 := by
        have := (List.getElem?_eq_some_iff.mp hd).1
        simpa [rng] using this
      have hwi : i < W.length := by omega
      have hget : W[i]? = some W[i] := List.getElem?_eq_getElem hwi
      have hsn : bookP (W.take (i + 1)) 0 [] = addW (bookP (W.take i) 0 []) W[i] (oneP i) := by
        rw [List.take_add_one, hget]
        show bookP (W.take i ++ [W[i]]) 0 [] = _
        rw [bookP_snoc, show 0 + (W.take i).length = i by rw [List.length_take]; omega]
      have hlen := hw W[i] (List.getElem_mem hwi)
      have hat : (W.map wD)[((i : Nat) : Int).toNat]? = some (wD W[i]) := by simp [hwi]
      rw [hsn]
      have bl : (bookP (W.take i) 0 []).length ≤ 1000 := by
        have := bookP_len (W := W.take i) (i := 0) (m := []) fun w h => (hw w (List.mem_of_mem_take h))
        simp at this; omega
      generalize bookP (W.take i) 0 [] = m at bl ⊢
      generalize W[i] = w at hlen hat ⊢
      refine ⟨("place", .int i) :: dropN "place" ρi, fun a => AsgJ.out (AsgJ.name (by walk_at "own")) ?_, ?_⟩
      · exact sub_cons (mem_there (mem_drop (by decide) mem_here)) (sub_cons mem_here fun p hp => .tail _ (List.mem_filter.mpr ⟨.tail _ (List.mem_filter.mp hp).1, (List.mem_filter.mp hp).2⟩))
      refine ExO.sub (ρ' := [("place", .int i), ("ways", wsD W)]) ?_ (sub_cons mem_here (sub_cons (mem_there (mem_drop (by decide) hp)) sub_nil))
      refine ExO.last (Ex1O.for (fun j ρ dd => dd = bD (addW m (w.take j) (oneP i)) ∧ ∀ p ∈ [(("place" : Str), D.int i), ("ways", wsD W)], p ∈ ρ) (IterJ.list (idx_listT (by walk_at "ev") (by walk_at "ev") (by omega) hat (by omega))) ⟨rfl, by walk_at "subs"⟩ (fun j dj ρj dd hd hp => ?_) (fun ρ' d' hp => ?_))
      · obtain ⟨rfl, hp⟩ := hp
        simp only [List.getElem?_map, Option.map_eq_some_iff] at hd
        obtain ⟨k, hk, rfl⟩ := hd
        have hsn : addW m (w.take (j + 1)) (oneP i) = addB (addW m (w.take j) (oneP i)) k (oneP i) := by
          unfold addW
          rw [List.take_add_one, hk, List.foldl_append]; rfl
        rw [hsn]
        have bl2 : (addW m (w.take j) (oneP i)).length ≤ 2000 := by
          have h1 := addW_len m (w.take j) (oneP i)
          have h2 : (w.take j).length ≤ w.length := by rw [List.length_take]; omega
          omega
        generalize addW m (w.take j) (oneP i) = b at bl2 ⊢
        refine ⟨("rung", .str k) :: dropN "rung" ρj, fun a => AsgJ.out (AsgJ.name (by walk_at "own")) ?_, ?_⟩
        · exact sub_cons (mem_there (mem_drop (by decide) mem_here)) (sub_cons mem_here fun p hp => .tail _ (List.mem_filter.mpr ⟨.tail _ (List.mem_filter.mp hp).1, (List.mem_filter.mp hp).2⟩))
        refine ExO.sub (ρ' := [("rung", .str k), ("place", .int i), ("ways", wsD W)]) ?_ (sub_cons mem_here (sub_cons (mem_there (mem_drop (by decide) (hp _ (by walk_at "mem")))) (sub_cons (mem_there (mem_drop (by decide) (hp _ (by walk_at "mem")))) sub_nil)))
        obtain ⟨v, hv⟩ : ∃ v : Int × Int, v = (atK b k).getD (0, 0) := ⟨_, rfl⟩
        refine ExO.one (Ex1O.assignT (d' := pD v) ?_ (pD_imm _) (fun a => AsgJ.out (AsgJ.tup (StoresJ.cons (by walk_at "own") (StoresJ.cons (by walk_at "own") StoresJ.nil))) (drop2_out (by decide) (by decide)))) ?_
        · refine ev_meth (by walk_at "ev") (ds := [.str k, pD (0, 0)]) (by walk_at "evl") (getM_dict PySem.F.slot_dict_get PySem.F.type_dict_get) ?_
          have := fn_dict_get (c := c) (n := n + 1) (kds := b.map fun q => (q.1, pD q.2)) (k := k) (d₀ := pD (0, 0))
          rw [atK_map pD] at this
          rw [hv]
          cases h : atK b k with
          | none => rw [h] at this; exact this
          | some x => rw [h] at this; exact this
        · have hsz : (b.map fun q => (q.1, pD q.2)).length ≤ sizeLine := by rw [List.length_map]; simp [sizeLine]; omega
          refine ExO.last (Ex1O.mono (Ex1O.setKey (d' := pD ((oneP i).1 + v.1, (oneP i).2 + v.2)) (k := k) (EvJ.ite (b := decide ((i : Int) < 4)) (by walk_at "tst") (fun h => ?_) fun h => ?_) (pD_imm _) (by walk_at "ev") hsz) fun r e => ?_)
          · have : i < 4 := by have := of_decide_eq_true h; omega
            rw [oneP, if_pos this, show ((1 : Int) + v.1, (0 : Int) + v.2) = (v.1 + 1, v.2) by rw [Int.add_comm, Int.zero_add]]
            walk_at "ev"
          · have : ¬ i < 4 := by have := of_decide_eq_false h; omega
            rw [oneP, if_neg this, show ((0 : Int) + v.1, (1 : Int) + v.2) = (v.1, v.2 + 1) by rw [Int.add_comm 1, Int.zero_add]]
            walk_at "ev"
          · subst e
            refine ⟨?_, sub2 rfl (by walk_at "subs")⟩
            rw [putK_map pD, addB, hv]
            cases h : atK b k with
            | none => simp
            | some x => simp
      · obtain ⟨rfl, hp⟩ := hp
        rw [List.length_map, List.take_length]
        exact ⟨rfl, hp _ (by walk_at "mem")⟩
    · obtain ⟨rfl, hp⟩ := hp
      refine ⟨ρ', ?_⟩
      rw [show (rng 8).length = W.length by rw [h8]; rfl, List.take_length]
  · obtain ⟨ρ'', q⟩ := q
    cases q
    exact ExO.ret (by walk_at "ev") rfl
end
section
variable {c : Wd} {z : Zt c} {env : Env} {ρ ρ' ρc : Ro} {n : Nat} {R : FlowD → Prop}

/-! the ways, as texts -/
noncomputable def chA (i : Nat) : Nat := ((Str.cps "Cab")[i / 4]?).getD 0
noncomputable def chB (i : Nat) : Nat := ((Str.cps "CcAa")[i % 4]?).getD 0
noncomputable def wayP (top : Str) (i : Nat) : List Str := plainP (chA i) (chB i) top
noncomputable def tops : List Str := ["local", "com", "7"]
noncomputable def optA (i : Nat) : Option Str := if i / 4 = 0 then none else if i / 4 = 1 then some "a" else some "b"
noncomputable def optB (i : Nat) : Option Str := if i % 4 = 0 then none else if i % 4 = 1 then some "c" else if i % 4 = 2 then some "A" else some "a"
/-- the checks of one way -/
noncomputable def wayOk (top : Str) (i : Nat) : Bool :=
  match wayP top i with
  | [] => false
  | y :: r => chainB y r && decide (y = locP (optB i) (some (locP (optA i) (some top)))) && decide (r.length < 9) &&
    decide ((locP (optA i) (some top)).length < 100 ∧ ((optA i).getD "C").length < 100 ∧ ((optB i).getD "C").length < 100) && (y :: r).all (fun x => decide (x.length ≤ 1000) && PyData.strOk x) && decide ((y :: r).Nodup)
theorem tops_all {P : Str → Prop} (h0 : P "local") (h1 : P "com") (h2 : P "7") : ∀ top ∈ tops, P top := fun top h => by
  simp only [tops, List.mem_cons, List.not_mem_nil, or_false] at h
  rcases h with rfl | rfl | rfl
  · exact h0
  · exact h1
  · exact h2
theorem wayOk_all : ∀ top ∈ tops, top.length < 100 ∧ ∀ i : Fin 12, wayOk top i = true := tops_all (by decide +kernel) (by decide +kernel) (by decide +kernel)

structure WayOk (top : Str) (i : Nat) : Prop where
  txts : ∀ x ∈ wayP top i, x.length ≤ 1000 ∧ PyData.strOk x = true
  nodup : (wayP top i).Nodup
  len : (wayP top i).length ≤ 10
  is : ∃ y r, wayP top i = y :: r ∧ Chain y r ∧ y = locP (optB i) (some (locP (optA i) (some top))) ∧ (locP (optA i) (some top)).length < 100 ∧ ((optA i).getD "C").length < 100 ∧ ((optB i).getD "C").length < 100
theorem wayOk_is {top : Str} {i : Nat} (h : wayOk top i = true) : WayOk top i := by
  unfold wayOk at h
  split at h
  · cases h
  · rename_i y r hw
    simp only [Bool.and_eq_true, decide_eq_true_eq, List.all_eq_true] at h
    obtain ⟨⟨⟨⟨⟨h1, h2⟩, h3⟩, h4⟩, h5⟩, h6⟩ := h
    exact ⟨fun x hx => by rw [hw] at hx; have := h5 x hx; exact ⟨this.1, this.2⟩, by rw [hw]; exact h6, by rw [hw]; simp; omega, y, r, hw, chain_of h1, h2, h4⟩
theorem wayOk_at {top : Str} (ht : top ∈ tops) {i : Nat} (hi : i < 12) : WayOk top i := wayOk_is ((wayOk_all top ht).2 ⟨i, hi⟩)

theorem fn_wayP (T : Tp c) {top : Str} (ht : top ∈ tops) {i : Nat} (hi : i < 12) : FnJ c (.ref 118) (n + 3) [.int (i : Nat), .str top] (wD (wayP top i)) := by
  obtain ⟨y, r, hw, hc, hy, h1, h2, h3⟩ := (wayOk_at ht hi).is
  have hl := (wayOk_at ht hi).len
  rw [hw]
  have d4 : i / 4 = 0 ∨ i / 4 = 1 ∨ i / 4 = 2 := by omega
  have m4 : i % 4 = 0 ∨ i % 4 = 1 ∨ i % 4 = 2 ∨ i % 4 = 3 := by omega
  refine fn_way (l1 := optA i) (l2 := optB i) T (patOk T) (by omega) (by omega) ?_ ?_ ⟨(wayOk_all top ht).1, h2, h3, h1⟩ hy hc (by rw [hw] at hl; simp at hl; omega)
  · have : ((i : Int) / 4).toNat = i / 4 := by omega
    rw [this]; unfold optA
    rcases d4 with q | q | q <;> rw [q] <;> rfl
  · have : ((i : Int) % 4).toNat = i % 4 := by omega
    rw [this]; unfold optB
    rcases m4 with q | q | q | q <;> rw [q] <;> rfl
theorem fn_plainP (T : Tp c) {top : Str} (ht : top ∈ tops) {i : Nat} (hi : i < 12) : FnJ c (.ref 125) (n + 1) [.int (i : Nat), .str top] (wD (wayP top i)) := by
  have h1 : ∀ i : Fin 12, (seqIndex? (((i : Nat) : Int) / 4) (Str.length "Cab")).bind ((Str.cps "Cab")[·]?) = some (chA i) ∧ (seqIndex? (((i : Nat) : Int) % 4) (Str.length "CcAa")).bind ((Str.cps "CcAa")[·]?) = some (chB i) := by decide +kernel
  obtain ⟨q1, q2⟩ := h1 ⟨i, hi⟩
  exact fn_plain T ⟨by omega, by omega⟩ q1 q2 (wayOk_all top ht).1

/-! prices -/
noncomputable def sizesP (top : Str) : List Int := if top == "7" then [1, 2] else [1, 2, 4, 4]
noncomputable def partP (Z : List Int) (a b : Nat) : Int := (Z.filter fun k => (a : Int) / k != (b : Int) / k).length
noncomputable def lchA (i : Nat) : Nat := ((Str.cps "cab")[i / 4]?).getD 0
noncomputable def lchB (i : Nat) : Nat := ((Str.cps "ccaa")[i % 4]?).getD 0
noncomputable def lowP (top : Str) (i : Nat) : List Str := plainP (lchA i) (lchB i) top
theorem low_all : ∀ top ∈ tops, ∀ i : Fin 12, (wayP top i).map Txt.lower = lowP top i := tops_all (by decide +kernel) (by decide +kernel) (by decide +kernel)
theorem lowOk_all : ∀ top ∈ tops, ∀ i : Fin 12, (lowP top i).Nodup ∧ (lowP top i).length ≤ 10 ∧ (lowP top i).all (fun x => PyData.strOk x) = true := by decide +kernel
noncomputable def priceQ : List Str → List Str → List Str → List Str → Int
  | a :: w, la :: lw, b :: v, lb :: lv => (if a == b then 0 else if la == lb then 1 else 2) + priceQ w lw v lv
  | _, _, _, _ => 0
theorem priceP_Q : ∀ (w v : List Str), priceP w v = priceQ w (w.map Txt.lower) v (v.map Txt.lower)
  | [], _ => rfl
  | a :: w, [] => rfl
  | a :: w, b :: v => by
    have ih := priceP_Q w v
    simp only [priceP, List.zip_cons_cons, List.map_cons, List.sum_cons] at ih ⊢
    rw [ih]; rfl
theorem priceQ_all : ∀ top ∈ tops, ∀ i j : Fin 12, priceQ (wayP top i) (lowP top i) (wayP top j) (lowP top j) = partP (sizesP top) i j := tops_all (by decide +kernel) (by decide +kernel) (by decide +kernel)
theorem price_at {top : Str} (ht : top ∈ tops) {i j : Nat} (hi : i < 12) (hj : j < 12) : priceP (wayP top i) (wayP top j) = partP (sizesP top) i j := by
  rw [priceP_Q, low_all top ht ⟨i, hi⟩, low_all top ht ⟨j, hj⟩]
  exact priceQ_all top ht ⟨i, hi⟩ ⟨j, hj⟩
end
section
variable {c : Wd} {z : Zt c} {env : Env} {ρ ρ' ρc : Ro} {n : Nat} {R : FlowD → Prop}

theorem sortL_len {L : List It} (h1 : 1 ≤ L.length) (hd : ∀ i j, i < L.length → j < L.length → i ≠ j → (L.getD i It.no).key ≠ (L.getD j It.no).key) : (sortL L).length = L.length := by
  have hrun := (sort_good (n := L.length) (key := fun i => (L.getD i It.no).key) hd h1).run
  unfold sortL
  rw [List.length_map]
  obtain ⟨hp, _⟩ := hrun
  exact hp.size

/-- the due row -/
structure DueOk (P : List Rw) (worth u d : Int) (x : Rw) : Prop where
  mem : x ∈ P
  val : x.1 = worth
  min : ∀ y ∈ P, y.1 = worth → (mkIt u d x).key ≤ (mkIt u d y).key
  inj : (P.map fun p => (mkIt u d p).key).Nodup
  bnd : ∀ y ∈ P, -3 ≤ d * y.2.2.1 ∧ d * y.2.2.1 ≤ 3 ∧ 0 ≤ y.2.2.2 ∧ y.2.2.2 ≤ 3
  same : ∀ x ∈ P, ∀ y ∈ P, u * x.2.1 = u * y.2.1 → d * x.2.2.1 = d * y.2.2.1 → x.2.1 = y.2.1 ∧ x.2.2.1 = y.2.2.1

theorem nodup_getD {L : List It} (h : (L.map It.key).Nodup) : ∀ i j, i < L.length → j < L.length → i ≠ j → (L.getD i It.no).key ≠ (L.getD j It.no).key := fun i j hi hj hij e => by
  have h1 : (L.map It.key)[i]? = some (L.getD i It.no).key := by simp [hi]
  have h2 : (L.map It.key)[j]? = some (L.getD j It.no).key := by simp [hj]
  rw [List.nodup_iff_pairwise_ne, List.pairwise_iff_getElem] at h
  rcases Nat.lt_or_gt_of_ne hij with q | q
  · refine h i j (by simpa using hi) (by simpa using hj) q ?_
    simpa [hi, hj] using e
  · refine h j i (by simpa using hj) (by simpa using hi) q ?_
    simpa [hi, hj] using e.symm

theorem fn_dueP (T : Tp c) {P : List Rw} {worth u d : Int} {x : Rw} (hu : ∀ a, IntMulOk u a) (hd : ∀ a, IntMulOk d a) (hP : P.length < 64) (h : DueOk P worth u d x) : FnJ c (.ref 147) (n + 1) [.list (P.map rD), .int worth, .int u, .int d] (.list [rD x]) := by
  have hfl : (P.filter fun p => p.1 == worth).length ≤ P.length := filter_le ..
  have hxm : mkIt u d x ∈ likes P worth u d := List.mem_map.mpr ⟨x, List.mem_filter.mpr ⟨h.mem, by simp [h.val]⟩, rfl⟩
  have h1 : 1 ≤ (likes P worth u d).length := List.length_pos_of_mem hxm
  have h64 : (likes P worth u d).length < 64 := by simp only [likes, List.length_map]; omega
  have hnd : ((likes P worth u d).map It.key).Nodup := by
    have : ((P.filter fun p => p.1 == worth).map fun p => (mkIt u d p).key).Sublist (P.map fun p => (mkIt u d p).key) := List.Sublist.map _ List.filter_sublist
    have := this.nodup h.inj
    simpa [likes, Function.comp_def] using this
  have hd' := nodup_getD hnd
  obtain ⟨y, hy1, hy2, hy3⟩ := sortL_head h1 hd'
  have hyx : y = mkIt u d x := by
    obtain ⟨p, hp, rfl⟩ := List.mem_map.mp hy2
    obtain ⟨hp1, hp2⟩ := List.mem_filter.mp hp
    have e1 := hy3 _ hxm
    have e2 := h.min p hp1 (by simpa using hp2)
    have e3 : (mkIt u d p).key = (mkIt u d x).key := by omega
    obtain ⟨i, hi⟩ := List.getElem?_of_mem hy2
    obtain ⟨j, hj⟩ := List.getElem?_of_mem hxm
    have hil := (List.getElem?_eq_some_iff.mp hi).1
    have hjl := (List.getElem?_eq_some_iff.mp hj).1
    by_cases q : i = j
    · subst q; rw [hi] at hj; exact Option.some.inj hj
    · have := hd' i j hil hjl q
      rw [List.getD_eq_getElem?_getD, List.getD_eq_getElem?_getD, hi, hj] at this
      exact absurd e3 this
  have := fn_due (n := n) (x := y) T hu hd hP (fn_sorted h1 h64 (fun q hq => ?_) (fun q hq r hr => ?_) hd') hy1 (by rw [sortL_len h1 hd']; exact h64)
  · rw [hyx] at this; exact this
  · obtain ⟨p, hp, rfl⟩ := List.mem_map.mp hq
    exact h.bnd p (List.mem_filter.mp hp).1
  · obtain ⟨p, hp, rfl⟩ := List.mem_map.mp hq
    obtain ⟨p', hp', rfl⟩ := List.mem_map.mp hr
    intro e1 e2
    obtain ⟨a1, a2⟩ := List.mem_filter.mp hp
    obtain ⟨b1, b2⟩ := List.mem_filter.mp hp'
    obtain ⟨c1, c2⟩ := h.same p a1 p' b1 e1 e2
    exact ⟨(by simpa using a2 : p.1 = worth).trans (by simpa using b2 : p'.1 = worth).symm, c1, c2⟩

/-! the law's own rows -/
noncomputable def rowP (pr : Nat → Nat → Int) (a b c : Nat) : Rw := (pr 0 a + pr 1 b + pr 2 c + pr 3 (6 - a - b - c), (a : Int), (b : Int), (c : Int))
noncomputable def pairP (pr : Nat → Nat → Int) : List Rw := ((List.range 4).map fun (a : Nat) => ((List.range 4).map fun (b : Nat) => if ((b : Nat) : Int) != (a : Int) then ((List.range 4).map fun (c : Nat) => if ((c : Nat) : Int) != (a : Int) && (((c : Nat) : Int) != (b : Int) && true) then [rowP pr a b c] else []).flatten else []).flatten).flatten
theorem pairP_rD (pr : Nat → Nat → Int) : ((List.range 4).map fun (a : Nat) => ((List.range 4).map fun (b : Nat) => if ((b : Nat) : Int) != (a : Int) then ((List.range 4).map fun (c : Nat) => if ((c : Nat) : Int) != (a : Int) && (((c : Nat) : Int) != (b : Int) && true) then [rD (rowP pr a b c)] else []).flatten else []).flatten).flatten = (pairP pr).map rD := by rfl
theorem pairP_len (pr : Nat → Nat → Int) : (pairP pr).length = 24 := by rfl
noncomputable def r4key (q : Rw) : Nat → Int | 0 => q.1 | 1 => q.2.1 | 2 => q.2.2.1 | _ => 0
noncomputable def firstL (sel : List (Nat × Int)) (turn : Int) : List Rw → Rw
  | [] => (0, 0, 0, 0)
  | r :: rs => firstP sel r4key turn r rs
end
section
variable {c : Wd} {z : Zt c} {env : Env} {ρ ρ' ρc : Ro} {n : Nat} {R : FlowD → Prop}

noncomputable def topP (t : Int) : Str := if t % 3 = 0 then "local" else if t % 3 = 1 then "com" else "7"
theorem topP_mem (t : Int) : topP t ∈ tops := by
  unfold topP tops; split
  · exact .head _
  · split
    · exact .tail _ (.head _)
    · exact .tail _ (.tail _ (.head _))
noncomputable abbrev upP (t : Int) : Int := 1 - t / 3 % 2 * 2
noncomputable abbrev downP (t : Int) : Int := 1 - t / 6 % 2 * 2
noncomputable abbrev nD (K : List Nat) : D := .list (K.map fun (i : Nat) => .int (i : Int))
noncomputable abbrev zis (K : List Nat) : List Int := K.map fun (i : Nat) => (i : Int)
noncomputable abbrev waysP (top : Str) (K : List Nat) : List (List Str) := K.map (wayP top)
noncomputable abbrev lowsP (top : Str) (K : List Nat) : List (List Str) := K.map (lowP top)
noncomputable def prP (top : Str) (K : List Nat) (i j : Nat) : Int := partP (sizesP top) (K.getD i 0) (K.getD (4 + j) 0)
noncomputable def lesserP (b : Bk) : Int := (b.map fun q => min q.2.1 q.2.2).sum
noncomputable def aboveP (b : Bk) : Int := (b.map fun q => max 0 (q.2.1 + q.2.2 - 4)).sum

/-- what the numbers have to be -/
structure Facts (K : List Nat) (top : Str) (up down : Int) : Prop where
  due1 : DueOk (pairP (prP top K)) (leastP (zis (K.take 4)) (zis (K.drop 4)) (sizesP top)) up down (firstL (selU up down) 1 (pairP (prP top K)))
  due2 : DueOk (pairP (prP top K)) (mostP (zis (K.take 4)) (zis (K.drop 4)) (sizesP top)) (-up) (-down) (firstL (selU up down) (-1) (pairP (prP top K)))
  greedy : greedyP up down 16 (rows0 (prP top K)) = leastP (zis (K.take 4)) (zis (K.drop 4)) (sizesP top)
  low : 8 * ((wayP top (K.getD 0 0)).length : Int) - lesserP (bookP (waysP top K) 0 []) - lesserP (bookP (lowsP top K) 0 []) = leastP (zis (K.take 4)) (zis (K.drop 4)) (sizesP top)
  high : 8 * ((wayP top (K.getD 0 0)).length : Int) - aboveP (bookP (waysP top K) 0 []) - aboveP (bookP (lowsP top K) 0 []) = mostP (zis (K.take 4)) (zis (K.drop 4)) (sizesP top)

theorem nD_zis (K : List Nat) : nD K = .list ((zis K).map .int) := by simp [Function.comp_def]
theorem waysD_eq (top : Str) (K : List Nat) : (K.map fun i => [wD (wayP top i)]).flatten = (waysP top K).map wD := by rw [flat_one, List.map_map]; rfl

theorem eight {K : List Nat} (h : K.length = 8) : ∃ a b c d e f g i, K = [a, b, c, d, e, f, g, i] := by
  match K, h with
  | [a, b, c, d, e, f, g, i], _ => exact ⟨a, b, c, d, e, f, g, i, rfl⟩
theorem price_mat {f g : Nat → Nat → Int} {K : List Nat} (h8 : K.length = 8) (h : ∀ a ∈ K, ∀ b ∈ K, f a b = g a b) :
    ((K.take 4).map fun a => D.list ((K.drop 4).map fun b => .int (f a b))) = (List.range 4).map fun i => .list ((List.range 4).map fun j => .int (g (K.getD i 0) (K.getD (4 + j) 0))) := by
  have e : ((K.take 4).map fun a => D.list ((K.drop 4).map fun b => .int (f a b))) = ((K.take 4).map fun a => D.list ((K.drop 4).map fun b => .int (g a b))) :=
    List.map_congr_left fun a ha => by rw [List.map_congr_left fun b hb => by rw [h a (List.mem_of_mem_take ha) b (List.mem_of_mem_drop hb)]]
  rw [e]
  obtain ⟨a, b, c, d, e, f, g, i, rfl⟩ := eight h8
  rfl
theorem okW {top : Str} (ht : top ∈ tops) {K : List Nat} (hK12 : ∀ k ∈ K, k < 12) : okD 2 (wsD (waysP top K)) := by
  intro d hd
  obtain ⟨w, hw, rfl⟩ := List.mem_map.mp hd
  obtain ⟨i, hi, rfl⟩ := List.mem_map.mp hw
  intro e he
  obtain ⟨x, hx, rfl⟩ := List.mem_map.mp he
  exact ((wayOk_at ht (hK12 i hi)).txts x hx).2
theorem okM {f : Nat → Nat → Int} {A B : List Nat} : okD 2 (.list (A.map fun i => .list (B.map fun j => .int (f i j)))) := by
  intro d hd
  obtain ⟨i, hi, rfl⟩ := List.mem_map.mp hd
  intro e he
  obtain ⟨j, hj, rfl⟩ := List.mem_map.mp he
  trivial
theorem okR {p : Rw} : okD 2 (.list [rD p]) := by
  intro d hd
  rw [List.mem_singleton.mp hd]
  intro e he
  simp only [List.mem_cons, List.not_mem_nil, or_false] at he
  rcases he with rfl | rfl | rfl | rfl <;> trivial
theorem okP (p : Int × Int) : okD 1 (pD p) := by
  intro e he
  simp only [List.mem_cons, List.not_mem_nil, or_false] at he
  rcases he with rfl | rfl <;> trivial
theorem sizes_ok {top : Str} : ∀ k ∈ sizesP top, 0 < k ∧ k < 1000 := by
  unfold sizesP; split <;> decide
theorem len_part {Z : List Int} {a b : Nat} (h : Z.length ≤ 100) : FnJ c (.builtin "len") n [.list ((Z.filter fun k => (a : Int) / k != (b : Int) / k).map .int)] (.int (partP Z a b)) := by
  have h1 := filter_le Z fun k => (a : Int) / k != (b : Int) / k
  have h2 : ((Z.filter fun k => (a : Int) / k != (b : Int) / k).map D.int).length < 1000000 := by rw [List.length_map]; omega
  have := fn_len_list (c := c) (n := n) h2
  rw [List.length_map] at this
  exact this
noncomputable abbrev lawG : Ro := [("_law_bounds", .glob (.ref 135)), ("range", .glob (.type "range")), ("TupleComp", .glob (.ref 88)), ("_law_first", .glob (.ref 142)), ("_law_due", .glob (.ref 147)), ("_law_nearest_first", .glob (.ref 152)), ("_law_book", .glob (.ref 157)), ("_law_plain_book", .glob (.ref 164)), ("len", .glob (.builtin "len")), ("_law_lesser", .glob (.ref 169)), ("_law_above", .glob (.ref 174))]

set_option maxHeartbeats 4000000 in
theorem walk_law (T : Tp c) {P : Addr} (TT : Tab c 98 P) {ns : List Int} {K : List Nat} {t : Int} (hz : ns.length ≤ 64) (hK : hostsP ns = zis K) (ht : totalP ns = t) (hK8 : K.length = 8) (hK12 : ∀ k ∈ K, k < 12) (FX : Facts K (topP t) (upP t) (downP t))
    (F : Fenv env (fnNames 179) (fnNames 179))
    (hρ : ∀ p ∈ [(("script" : Str), D.list (ns.map .int)), ("_law_draw", .glob (.ref 111)), ("_law_bounds", .glob (.ref 135)), ("range", .glob (.type "range")), ("TupleComp", .glob (.ref 88)), ("_law_first", .glob (.ref 142)), ("_law_due", .glob (.ref 147)), ("_law_nearest_first", .glob (.ref 152)), ("_law_book", .glob (.ref 157)), ("_law_plain_book", .glob (.ref 164)), ("len", .glob (.builtin "len")), ("_law_lesser", .glob (.ref 169)), ("_law_above", .glob (.ref 174))], p ∈ ρ) :
    ExZ c TT.z env (n + 3) ρ (fnBody 179) (· = .ret (.bool true)) := by
  refine ExZ.sub ?_ hρ
  clear hρ
  conv => arg 6; whnf
  have ht3 : ([.str "local", .str "com", .str "7"] : List D)[(t % 3).toNat]? = some (.str (topP t)) := by
    have h3 : t % 3 = 0 ∨ t % 3 = 1 ∨ t % 3 = 2 := by omega
    unfold topP
    rcases h3 with q | q | q <;> rw [q] <;> rfl
  have htop := topP_mem t
  have hdraw : FnJ c (.ref 111) (n + 3) [.list (ns.map .int)] (.tup [nD K, .int t]) := by
    have := fn_draw (n := n + 2) T hz
    rw [hK, ht, ← nD_zis] at this
    exact this
  generalize topP t = top at ht3 htop FX ⊢
  refine ExZ.seq (R' := (· = .next _)) (Ex1Z.of (Ex1.assignT (by walk_at "ev") (AsgJ.tup (StoresJ.cons (by walk_at "own") (StoresJ.cons (by walk_at "own") StoresJ.nil))))) (fun ρ' e => ?_) (fun d q => by cases q)
  cases e
  refine ExZ.assign (d := .str top) (idx_tupT (by walk_at "ev") (by walk_at "ev") (by omega) ht3 (by omega)) (by walk_at "own") ?_
  refine ExZ.assign (d := wsD (waysP top K)) (ev_compL F [("top", .str top), ("_law_way", .glob (.ref 118))] K (fun (i : Nat) => .int (i : Int)) D.nn (fun i => [wD (wayP top i)]) _ (by walk_at "sees") (IterJ.list (by walk_at "ev")) (fun env' F' i hi => ?_) (fun _ _ => rfl) (waysD_eq top K) ?_ (by decide) rfl (by decide +kernel) (by decide +kernel) (fun x => rfl)) (by walk_at "own") ?_ (hs := swaps_cell F (by decide +kernel))
  · have hf := fn_wayP (n := n) T htop (hK12 i hi)
    exact item_elt rfl (AsgJ.name (by walk_at "own")) (sub_drop rfl) (by walk_at "ev")
  · simp [sizeLine]; omega
  refine ExZ.sub (ρ' := ("ways", wsD (waysP top K)) :: ("top", .str top) :: ("hosts", nD K) :: ("total", .int t) :: lawG) ?_ (by walk_at "subs")
  refine ExZ.ifret (d := .none) (TestJ.cmp (d₁ := wsD (waysP top K)) (by walk_at "ev") (ev_compL F [("top", .str top), ("_law_plain_way", .glob (.ref 125))] K (fun (i : Nat) => .int (i : Int)) D.nn (fun i => [wD (wayP top i)]) _ (by walk_at "sees") (IterJ.list (by walk_at "ev")) (fun env' F' i hi => ?_) (fun _ _ => rfl) (waysD_eq top K) ?_ (by decide) rfl (by decide +kernel) (by decide +kernel) (fun x => rfl)) (ne_same (okW htop hK12))) ?_
  · have hf := fn_plainP (n := n + 2) T htop (hK12 i hi)
    exact item_elt rfl (AsgJ.name (by walk_at "own")) (sub_drop rfl) (by walk_at "ev")
  · simp [sizeLine]; omega
  refine ExZ.assign (d := .tup ((sizesP top).map .int)) (EvJ.ite (b := top == "7") (by walk_at "tst") (fun h => ?_) fun h => ?_) (by walk_at "own") ?_
  · rw [sizesP, if_pos h]
    show EvJ _ _ _ _ _ (.tup [.int 1, .int 2])
    walk_at "ev"
  · rw [sizesP, h]
    show EvJ _ _ _ _ _ (.tup [.int 1, .int 2, .int 4, .int 4])
    walk_at "ev"
  have hWl : (waysP top K).length = 8 := by rw [List.length_map]; exact hK8
  have hWx : ∀ w ∈ waysP top K, ∀ x ∈ w, x.length ≤ 1000 := fun w hw x hx => by
    obtain ⟨i, hi, rfl⟩ := List.mem_map.mp hw
    exact ((wayOk_at htop (hK12 i hi)).txts x hx).1
  have hWn : ∀ w ∈ waysP top K, w.Nodup ∧ w.length ≤ 10 := fun w hw => by
    obtain ⟨i, hi, rfl⟩ := List.mem_map.mp hw
    exact ⟨(wayOk_at htop (hK12 i hi)).nodup, (wayOk_at htop (hK12 i hi)).len⟩
  have hmat : ((waysP top K).take 4).map (fun w => D.list (((waysP top K).drop 4).map fun v => .int (priceP w v))) = (List.range 4).map fun i => .list ((List.range 4).map fun j => .int (prP top K i j)) := by
    have := price_mat (f := fun a b => priceP (wayP top a) (wayP top b)) (g := fun a b => partP (sizesP top) a b) hK8 fun a ha b hb => price_at htop (hK12 a ha) (hK12 b hb)
    rw [← List.map_take, ← List.map_drop, List.map_map]
    simp only [Function.comp_def, List.map_map]
    exact this
  refine ExZ.sub (ρ' := ("ways", wsD (waysP top K)) :: ("top", .str top) :: ("hosts", nD K) :: ("total", .int t) :: ("sizes", .tup ((sizesP top).map .int)) :: lawG) ?_ (by walk_at "subs")
  refine ExZ.assign (d := prD (prP top K)) (ev_compL F [("ways", wsD (waysP top K))] ((waysP top K).take 4) wD D.ss (fun w => [.list (((waysP top K).drop 4).map fun v => .int (priceP w v))]) _ (by walk_at "sees") ?_ (fun env' F' w hw => ?_) (fun w _ => ss_wD w) ((flat_one _ _).trans hmat) (by walk_at "sz") (by decide) rfl (by decide +kernel) (by decide +kernel) (fun x => rfl)) (by walk_at "own") ?_ (hs := swaps_cell F (by decide +kernel))
  · rw [List.map_take]
    exact IterJ.list (slice_upto (k := 4) (by walk_at "ev") EvJ.int (by simp [sizeLine]; omega))
  · refine item_elt rfl (AsgJ.name (by walk_at "own")) (sub_drop rfl) ?_
    refine ev_compL F' [("way", wD w), ("_law_price", .glob (.ref 130))] ((waysP top K).drop 4) wD D.ss (fun v => [.int (priceP w v)]) _ (by walk_at "sees") ?_ (fun env'' F'' v hv => ?_) (fun w _ => ss_wD w) (flat_one _ _) (by simp [sizeLine]; omega) (by decide) rfl (by decide +kernel) (by decide +kernel) (fun x => rfl)
    · rw [List.map_drop]
      exact IterJ.list (slice_from (k := 4) (by walk_at "ev") EvJ.int (by simp [sizeLine]; omega))
    · have hw' := List.mem_of_mem_take hw
      have hv' := List.mem_of_mem_drop hv
      have hf := fn_price (n := n + 1) T (hWx w hw') (hWx v hv') (by have := (hWn w hw').2; omega)
      exact item_elt rfl (AsgJ.name (by walk_at "own")) (sub_drop rfl) (by walk_at "ev")
  refine ExZ.sub (ρ' := ("price", prD (prP top K)) :: ("ways", wsD (waysP top K)) :: ("top", .str top) :: ("hosts", nD K) :: ("total", .int t) :: ("sizes", .tup ((sizesP top).map .int)) :: lawG) ?_ (by walk_at "subs")
  have hmat2 : (K.take 4).map (fun a => D.list ((K.drop 4).map fun b => .int (partP (sizesP top) a b))) = (List.range 4).map fun i => .list ((List.range 4).map fun j => .int (prP top K i j)) :=
    price_mat (f := fun a b => partP (sizesP top) a b) (g := fun a b => partP (sizesP top) a b) hK8 fun a ha b hb => rfl
  have hZl : (sizesP top).length ≤ 100 := by unfold sizesP; split <;> decide
  refine ExZ.ifret (d := .none) (TestJ.cmp (d₁ := prD (prP top K)) (by walk_at "ev") (ev_compL F [("hosts", nD K), ("sizes", .tup ((sizesP top).map .int))] (K.take 4) (fun (i : Nat) => .int (i : Int)) D.nn (fun a => [.list ((K.drop 4).map fun b => .int (partP (sizesP top) a b))]) _ (by walk_at "sees") ?_ (fun env' F' a ha => ?_) (fun _ _ => rfl) ((flat_one _ _).trans hmat2) (by walk_at "sz") (by decide) rfl (by decide +kernel) (by decide +kernel) (fun x => rfl)) (ne_same okM)) ?_
  · rw [List.map_take]
    exact IterJ.list (slice_upto (k := 4) (by walk_at "ev") EvJ.int (by simp [sizeLine]; omega))
  · refine item_elt rfl (AsgJ.name (by walk_at "own")) (sub_drop rfl) ?_
    refine ev_compL F' [("one", .int (a : Int)), ("sizes", .tup ((sizesP top).map .int)), ("len", .glob (.builtin "len"))] (K.drop 4) (fun (i : Nat) => .int (i : Int)) D.nn (fun b => [.int (partP (sizesP top) a b)]) _ (by walk_at "sees") ?_ (fun env'' F'' b hb => ?_) (fun _ _ => rfl) (flat_one _ _) (by simp [sizeLine]; omega) (by decide) rfl (by decide +kernel) (by decide +kernel) (fun x => rfl)
    · rw [List.map_drop]
      exact IterJ.list (slice_from (k := 4) (by walk_at "ev") EvJ.int (by simp [sizeLine]; omega))
    · refine item_elt rfl (AsgJ.name (by walk_at "own")) (sub_drop rfl) ?_
      refine EvJ.callb (ds := [.list (((sizesP top).filter fun k => (a : Int) / k != (b : Int) / k).map .int)]) (by walk_at "mem") (EvL.cons (ev_compL F'' [("one", .int (a : Int)), ("other", .int (b : Int))] (sizesP top) .int D.i (fun k => if (a : Int) / k != (b : Int) / k then [.int k] else []) _ (by walk_at "sees") (IterJ.tup (by walk_at "ev")) (fun env3 F3 k hk => ?_) (fun a _ => rfl) (flat_if ..) ?_ (by decide) rfl (by decide +kernel) (by decide +kernel) (fun x => rfl)) EvL.nil) (len_part hZl)
      · obtain ⟨k0, k1⟩ := sizes_ok k hk
        exact item_if rfl (AsgJ.name (by walk_at "own")) (sub_drop rfl) (by walk_at "tst") (fun _ => by walk_at "ev")
      · have := filter_le (sizesP top) fun k => (a : Int) / k != (b : Int) / k
        simp [sizeLine]; omega
  clear hmat hmat2 hWx
  refine ExZ.sub (ρ' := ("price", prD (prP top K)) :: ("ways", wsD (waysP top K)) :: ("top", .str top) :: ("hosts", nD K) :: ("total", .int t) :: ("sizes", .tup ((sizesP top).map .int)) :: lawG) ?_ (by walk_at "subs")
  have hbnd := fn_bounds (n := n + 2) T (S := zis (K.take 4)) (B := zis (K.drop 4)) (Z := sizesP top) (by simp; omega) (by simp; omega) sizes_ok
  have e1 : (nD K) = .list ((zis K).map .int) := nD_zis K
  have s1 : ((K.map fun (i : Nat) => D.int (i : Int)).take 4) = (zis (K.take 4)).map .int := by simp [Function.comp_def, List.map_take]
  have s2 : ((K.map fun (i : Nat) => D.int (i : Int)).drop 4) = (zis (K.drop 4)).map .int := by simp [Function.comp_def, List.map_drop]
  refine ExZ.seq (R' := (· = .next _)) (Ex1Z.of (Ex1.assignT (EvJ.call (by walk_at "mem") (by walk_at "def") (EvL.cons (d := .list ((zis (K.take 4)).map .int)) ?_ (EvL.cons (d := .list ((zis (K.drop 4)).map .int)) ?_ (EvL.cons (by walk_at "ev") EvL.nil))) hbnd) (AsgJ.tup (StoresJ.cons (by walk_at "own") (StoresJ.cons (by walk_at "own") StoresJ.nil))))) (fun ρ' e => ?_) (fun d q => by cases q)
  · rw [← s1]
    exact slice_upto (k := 4) (by walk_at "ev") EvJ.int (by simp [sizeLine]; omega)
  · rw [← s2]
    exact slice_from (k := 4) (by walk_at "ev") EvJ.int (by simp [sizeLine]; omega)
  cases e
  clear hbnd e1 s1 s2
  obtain ⟨due1, due2, hgreedy, hlow, hhigh⟩ := FX
  generalize leastP (zis (K.take 4)) (zis (K.drop 4)) (sizesP top) = least at due1 hgreedy hlow ⊢
  generalize mostP (zis (K.take 4)) (zis (K.drop 4)) (sizesP top) = most at due2 hhigh ⊢
  generalize hpr : prP top K = pr at due1 due2 hgreedy ⊢
  refine ExZ.sub (ρ' := ("least", .int least) :: ("most", .int most) :: ("price", prD pr) :: ("ways", wsD (waysP top K)) :: ("total", .int t) :: lawG) ?_ (by walk_at "subs")
  refine ExZ.one (ex_assignL F [("price", prD pr), ("range", .glob (.type "range"))] (List.range 4) (fun (i : Nat) => .int (i : Int)) D.nn (fun (a : Nat) => ((List.range 4).map fun (b : Nat) => if ((b : Nat) : Int) != (a : Int) then ((List.range 4).map fun (c : Nat) => if ((c : Nat) : Int) != (a : Int) && (((c : Nat) : Int) != (b : Int) && true) then [rD (rowP pr a b c)] else []).flatten else []).flatten) ((pairP pr).map rD) (by walk_at "sees") (IterJ.range (m := 4) (by walk_at "mem") EvJ.int (by decide)) (fun env' F' a ha => ?_) (fun _ _ => rfl) (pairP_rD pr) (by rw [List.length_map, pairP_len]; decide) (by decide) rfl (by decide +kernel) (by decide +kernel) (fun x => rfl) (swaps_local F (by decide +kernel) rfl (by decide +kernel)) (by walk_at "own")) ?_
  · have ha4 : a < 4 := by simpa using ha
    refine item_in (b := true) (List.range 4) (fun (j : Nat) => .int (j : Int)) D.nn (fun (b : Nat) => if ((b : Nat) : Int) != (a : Int) then ((List.range 4).map fun (c : Nat) => if ((c : Nat) : Int) != (a : Int) && (((c : Nat) : Int) != (b : Int) && true) then [rD (rowP pr a b c)] else []).flatten else []) rfl (AsgJ.name (by walk_at "own")) (sub_drop rfl) TestsJ.nil (by decide) (fun _ => IterJ.range (m := 4) (by walk_at "mem") EvJ.int (by decide)) (fun _ b hb => ?_) (fun _ _ => rfl) (fun x => rfl)
    have hb4 : b < 4 := by simpa using hb
    refine item_in (List.range 4) (fun (j : Nat) => .int (j : Int)) D.nn (fun (c : Nat) => if ((c : Nat) : Int) != (a : Int) && (((c : Nat) : Int) != (b : Int) && true) then [rD (rowP pr a b c)] else []) rfl (AsgJ.name (by walk_at "own")) (fun p hp => ?_) (TestsJ.one (by walk_at "tst")) (by decide) (fun _ => IterJ.range (m := 4) (by walk_at "mem") EvJ.int (by decide)) (fun hba c hc => ?_) (fun _ _ => rfl) (fun x => rfl)
    · exact (sub_drop (x := "b") (d := .int b) (ρ := ("a", .int a) :: dropN "a" [("price", prD pr), ("range", .glob (.type "range"))]) rfl) p hp
    have hc4 : c < 4 := by simpa using hc
    refine item_end rfl (AsgJ.name (by walk_at "own")) (fun p hp => ?_) (TestsJ.one (TestJ.bool (AllJ.and_cons (by walk_at "tst") fun _ => AllJ.and_cons (by walk_at "tst") fun _ => AllJ.and_nil))) (fun hcc => ?_)
    · exact (sub_drop (x := "c") (d := .int c) (ρ := ("b", .int b) :: dropN "b" (("a", .int a) :: dropN "a" [("price", prD pr), ("range", .glob (.type "range"))])) rfl) p hp
    · have hba' : (b : Int) ≠ a := by simpa using hba
      have hcc' : (c : Int) ≠ a ∧ (c : Int) ≠ b := by simpa using hcc
      have hx : (6 : Int) - a - b - c = ((6 - a - b - c : Nat) : Int) := by omega
      have hx4 : 6 - a - b - c < 4 := by omega
      refine EvJ.tuple (hz := by walk_at "sz") (EvL.cons (d := .int (pr 0 a + pr 1 b + pr 2 c + pr 3 (6 - a - b - c))) ?_ (EvL.cons (d := .int (a : Int)) (by walk_at "ev") (EvL.cons (d := .int (b : Int)) (by walk_at "ev") (EvL.cons (d := .int (c : Int)) (by walk_at "ev") EvL.nil))))
      refine EvJ.bin (EvJ.bin (EvJ.bin (idx_listT (idx_listT (i := ((0 : Nat) : Int)) (by walk_at "ev") EvJ.int (by omega) (pr_at (by omega)) (by omega)) (by walk_at "ev") (by omega) (pr_at2 ha4) (by omega)) (idx_listT (idx_listT (i := ((1 : Nat) : Int)) (by walk_at "ev") EvJ.int (by omega) (pr_at (by omega)) (by omega)) (by walk_at "ev") (by omega) (pr_at2 hb4) (by omega)) bin_add) (idx_listT (idx_listT (i := ((2 : Nat) : Int)) (by walk_at "ev") EvJ.int (by omega) (pr_at (by omega)) (by omega)) (by walk_at "ev") (by omega) (pr_at2 hc4) (by omega)) bin_add) (idx_listT (i := ((6 - a - b - c : Nat) : Int)) (idx_listT (i := ((3 : Nat) : Int)) (by walk_at "ev") EvJ.int (by omega) (pr_at (by omega)) (by omega)) ?_ (by omega) (pr_at2 hx4) (by omega)) bin_add
      rw [← hx]
      walk_at "ev"
  refine ExZ.assign (d := .int (upP t)) (by walk_at "ev") (by walk_at "own") ?_
  refine ExZ.assign (d := .int (downP t)) (by walk_at "ev") (by walk_at "own") ?_
  have hup : upP t = 1 ∨ upP t = -1 := by unfold upP; omega
  have hdown : downP t = 1 ∨ downP t = -1 := by unfold downP; omega
  generalize upP t = up at hup due1 due2 hgreedy ⊢
  generalize downP t = down at hdown due1 due2 hgreedy ⊢
  have huOk : ∀ a, IntMulOk up a := fun a => by rcases hup with rfl | rfl <;> exact IntMulOk.of_left (by decide +kernel)
  have hdOk : ∀ a, IntMulOk down a := fun a => by rcases hdown with rfl | rfl <;> exact IntMulOk.of_left (by decide +kernel)
  have huOk' : ∀ a, IntMulOk (-up) a := fun a => by rcases hup with rfl | rfl <;> exact IntMulOk.of_left (by decide +kernel)
  have hdOk' : ∀ a, IntMulOk (-down) a := fun a => by rcases hdown with rfl | rfl <;> exact IntMulOk.of_left (by decide +kernel)
  refine ExZ.sub (ρ' := ("up", .int up) :: ("down", .int down) :: ("pairings", .list ((pairP pr).map rD)) :: ("least", .int least) :: ("most", .int most) :: ("price", prD pr) :: ("ways", wsD (waysP top K)) :: lawG) ?_ (by walk_at "subs")
  have hmake : FnJ c (.ref 88) (n + 3) [selD (selU up down)] (.inst (selD (selU up down))) := make_comp (sp := ⟨0, 0, 0, 0⟩) (clsOk T) (def78 T)
  refine ExZ.assign (d := .inst (selD (selU up down))) (EvJ.callK (by walk_at "mem") (clsOk T).keep (EvL.cons (d := selD (selU up down)) ?_ EvL.nil) hmake) (by walk_at "own") ?_
  · show EvJ _ _ _ _ _ (.list [.tup [.int 0, .int 1], .tup [.int 1, .int up], .tup [.int 2, .int down]])
    walk_at "ev"
  have hf1 : FnJ c (.ref 142) (n + 3) [.list ((pairP pr).map rD), .inst (selD (selU up down)), .int 1] (rD (firstL (selU up down) 1 (pairP pr))) :=
    fn_first (n := n + 1) (φ := fun p : Rw => [.int p.1, .int p.2.1, .int p.2.2.1, .int p.2.2.2]) (key := r4key) (r := rowP pr 0 1 2) (rs := (pairP pr).tail) T (fun a _ p hp => by
      rcases List.mem_cons.mp hp with rfl | hp
      · exact ⟨rfl, Nat.le_of_ble_eq_true rfl⟩
      · rcases List.mem_cons.mp hp with rfl | hp
        · exact ⟨rfl, Nat.le_of_ble_eq_true rfl⟩
        · rcases List.mem_cons.mp hp with rfl | hp
          · exact ⟨rfl, Nat.le_of_ble_eq_true rfl⟩
          · cases hp) (fun a _ b _ => mul_one_ok) (by show 23 < 1000; decide)
  have hf2 : FnJ c (.ref 142) (n + 3) [.list ((pairP pr).map rD), .inst (selD (selU up down)), .int (-1)] (rD (firstL (selU up down) (-1) (pairP pr))) :=
    fn_first (n := n + 1) (φ := fun p : Rw => [.int p.1, .int p.2.1, .int p.2.2.1, .int p.2.2.2]) (key := r4key) (r := rowP pr 0 1 2) (rs := (pairP pr).tail) T (fun a _ p hp => by
      rcases List.mem_cons.mp hp with rfl | hp
      · exact ⟨rfl, Nat.le_of_ble_eq_true rfl⟩
      · rcases List.mem_cons.mp hp with rfl | hp
        · exact ⟨rfl, Nat.le_of_ble_eq_true rfl⟩
        · rcases List.mem_cons.mp hp with rfl | hp
          · exact ⟨rfl, Nat.le_of_ble_eq_true rfl⟩
          · cases hp) (fun a _ b _ => IntMulOk.of_right (by decide +kernel)) (by show 23 < 1000; decide)
  have hd1 : FnJ c (.ref 147) (n + 3) _ _ := fn_dueP (n := n + 2) T huOk hdOk (by rw [pairP_len]; decide) due1
  have hd2 : FnJ c (.ref 147) (n + 3) _ _ := fn_dueP (n := n + 2) T huOk' hdOk' (by rw [pairP_len]; decide) due2
  generalize firstL (selU up down) 1 (pairP pr) = x1 at hf1 hd1
  generalize firstL (selU up down) (-1) (pairP pr) = x2 at hf2 hd2
  refine ExZ.ifret (d := .none) (TestJ.cmp (d₁ := .list [rD x1]) (d₂ := .list [rD x1]) (by walk_at "ev") (by walk_at "ev") (ne_same okR)) ?_
  refine ExZ.ifret (d := .none) (TestJ.cmp (d₁ := .list [rD x2]) (d₂ := .list [rD x2]) (by walk_at "ev") (by walk_at "ev") (ne_same okR)) ?_
  have hg : FnJ c (.ref 152) (n + 3) [prD pr, .inst (selD (selU up down))] (.int least) := by rw [← hgreedy]; exact fn_greedy T
  refine ExZ.ifret (d := .none) (TestJ.cmp (d₁ := .int least) (d₂ := .int least) (by walk_at "ev") (by walk_at "ev") (ne_same (m := 0) trivial)) ?_
  refine ExZ.sub (ρ' := ("least", .int least) :: ("most", .int most) :: ("ways", wsD (waysP top K)) :: lawG) ?_ (by walk_at "subs")
  have hWle : ∀ w ∈ waysP top K, w.length ≤ 10 := fun w hw => (hWn w hw).2
  have hLl : (lowsP top K).length = 8 := by rw [List.length_map]; exact hK8
  have hLn : ∀ w ∈ lowsP top K, w.Nodup ∧ w.length ≤ 10 := fun w hw => by
    obtain ⟨i, hi, rfl⟩ := List.mem_map.mp hw
    have := lowOk_all top htop ⟨i, hK12 i hi⟩
    exact ⟨this.1, this.2.1⟩
  have hLle : ∀ w ∈ lowsP top K, w.length ≤ 10 := fun w hw => (hLn w hw).2
  have tn : ((bookP (waysP top K) 0 []).map (·.1)).Nodup := bookP_nodup .nil
  have sn : ((bookP (lowsP top K) 0 []).map (·.1)).Nodup := bookP_nodup .nil
  have tl : (bookP (waysP top K) 0 []).length ≤ 1000 := by
    have := bookP_len (W := waysP top K) (i := 0) (m := []) hWle
    rw [hWl] at this; simp at this; omega
  have sl : (bookP (lowsP top K) 0 []).length ≤ 1000 := by
    have := bookP_len (W := lowsP top K) (i := 0) (m := []) hLle
    rw [hLl] at this; simp at this; omega
  have bk1 := fn_book (n := n + 1) T TT hWl hWn
  have bk2 := fn_book (n := n + 1) T TT hLl hLn
  have pb1 : FnJ c (.ref 164) (n + 3) _ _ := fn_pbook (n := n + 1) T hWl hWle
  have pb2 : FnJ c (.ref 164) (n + 3) _ _ := fn_pbook (n := n + 1) T hLl hLle
  have les1 : FnJ c (.ref 169) (n + 3) _ _ := fn_lesser (n := n + 1) T tn tl
  have les2 : FnJ c (.ref 169) (n + 3) _ _ := fn_lesser (n := n + 1) T sn sl
  have abo1 : FnJ c (.ref 174) (n + 3) _ _ := fn_above (n := n + 1) T tn tl
  have abo2 : FnJ c (.ref 174) (n + 3) _ _ := fn_above (n := n + 1) T sn sl
  have hz1 : 1 ≤ K.length := by omega
  have hw0 : ((waysP top K).map wD)[((0 : Int)).toNat]? = some (wD (wayP top (K.getD 0 0))) := by
    obtain ⟨a, b, c, d, e, f, g, i, rfl⟩ := eight hK8; rfl
  have hl10 : (wayP top (K.getD 0 0)).length ≤ 10 := by
    refine (wayOk_at htop (hK12 _ ?_)).len
    obtain ⟨a, b, c, d, e, f, g, i, rfl⟩ := eight hK8; exact .head _
  have hlow' : ∀ w ∈ waysP top K, ∀ x ∈ w, x.length ≤ 1000 := fun w hw x hx => by
    obtain ⟨i, hi, rfl⟩ := List.mem_map.mp hw
    exact ((wayOk_at htop (hK12 i hi)).txts x hx).1
  have hlows : ((waysP top K).map fun w => [wD (w.map Txt.lower)]).flatten = (lowsP top K).map wD := by
    rw [flat_one, List.map_map, List.map_map]
    exact List.map_congr_left fun i hi => by
      simp only [Function.comp_def]
      rw [low_all top htop ⟨i, hK12 i hi⟩]
  change _ - (((bookP (waysP top K) 0 []).map fun q => min q.2.1 q.2.2).sum) - (((bookP (lowsP top K) 0 []).map fun q => min q.2.1 q.2.2).sum) = _ at hlow
  change _ - (((bookP (waysP top K) 0 []).map fun q => max 0 (q.2.1 + q.2.2 - 4)).sum) - (((bookP (lowsP top K) 0 []).map fun q => max 0 (q.2.1 + q.2.2 - 4)).sum) = _ at hhigh
  generalize wayP top (K.getD 0 0) = w0 at hlow hhigh hw0 hl10
  generalize lowsP top K = L at *
  generalize waysP top K = W at *
  generalize bookP W 0 [] = tb at *
  generalize bookP L 0 [] = sb at *
  refine ExZ.assignZ (d := bD tb) (EvZ.call (by walk_at "mem") (by walk_at "def") (by walk_at "evl") bk1) (by walk_at "own") ?_
  refine ExZ.one (ex_assignL F [] W wD D.ss (fun w => [wD (w.map Txt.lower)]) (L.map wD) (by walk_at "sees") (IterJ.list (by walk_at "ev")) (fun env' F' w hw => ?_) (fun w _ => ss_wD w) hlows (by rw [List.length_map, hLl]; decide) (by decide) rfl (by decide +kernel) (by decide +kernel) (fun x => rfl) (swaps_local F (by decide +kernel) rfl (by decide +kernel)) (by walk_at "own")) ?_
  · refine item_elt rfl (AsgJ.name (by walk_at "own")) (sub_drop rfl) ?_
    refine ev_compL F' [] w .str D.s (fun x => [.str (Txt.lower x)]) _ (by walk_at "sees") (IterJ.list (by walk_at "ev")) (fun env'' F'' x hx => ?_) (fun _ _ => rfl) ?_ ?_ (by decide) rfl (by decide +kernel) (by decide +kernel) (fun x => rfl)
    · have h1 := hlow' w hw x hx
      refine item_elt rfl (AsgJ.name (by walk_at "own")) (sub_drop rfl) (ev_meth (by walk_at "ev") (by walk_at "evl") getM_lower (fn_lower (by omega)))
    · rw [flat_one, List.map_map]; rfl
    · have := (hWn w hw).2
      simp [sizeLine]; omega
  refine ExZ.assignZ (d := bD sb) (EvZ.call (by walk_at "mem") (by walk_at "def") (by walk_at "evl") bk2) (by walk_at "own") ?_
  refine ExZ.sub (ρ' := ("typed", bD tb) :: ("small", bD sb) :: ("plain", wsD L) :: ("least", .int least) :: ("most", .int most) :: ("ways", wsD W) :: lawG) ?_ (by walk_at "subs")
  have okb : ∀ b : Bk, ∀ p ∈ (b.map fun q => (q.1, pD q.2)), okD 1 p.2 := fun b p hp => by
    obtain ⟨q, _, rfl⟩ := List.mem_map.mp hp
    exact okP q.2
  refine ExZ.ifret (d := .none) (TestJ.bool (b := false || (false || false)) (AllJ.or_cons (TestJ.cmp (d₁ := bD tb) (d₂ := bD tb) (by walk_at "ev") (by walk_at "ev") (ne_same_dict (m := 1) (okb tb))) fun _ => AllJ.or_cons (TestJ.cmp (d₁ := bD sb) (d₂ := bD sb) (by walk_at "ev") (by walk_at "ev") (ne_same_dict (m := 1) (okb sb))) fun _ => AllJ.or_nil)) ?_
  have hlen0 : FnJ c (.builtin "len") (n + 3) [wD w0] (.int (w0.length : Int)) := by
    have := fn_len_list (c := c) (n := n + 3) (ds := w0.map .str) (by rw [List.length_map]; omega)
    rw [List.length_map] at this; exact this
  refine ExZ.assign (d := .int (8 * (w0.length : Int))) (EvJ.bin (by walk_at "ev") (EvJ.callb (by walk_at "mem") (EvL.cons (idx_listT (by walk_at "ev") (by walk_at "ev") (by decide) hw0 (by decide)) EvL.nil) hlen0) (bin_mul (IntMulOk.of_left (by decide +kernel)))) (by walk_at "own") ?_
  refine ExZ.ifret (d := .none) (TestJ.cmp (d₁ := .int least) (d₂ := .int least) ?_ (by walk_at "ev") (ne_same (m := 0) trivial)) ?_
  · rw [← hlow]
    walk_at "ev"
  refine ExZ.ret (d := .bool true) (EvJ.cmp (d₁ := .int most) (d₂ := .int most) ?_ (by walk_at "ev") (eq_same (m := 0) trivial)) rfl
  rw [← hhigh]
  walk_at "ev"
end
section
/-- the heap without the table of add_callers' code -/
noncomputable def erase (h : Heap) (P : Addr) : Heap := h.update P fun o => { o with data := .freed }
theorem erase_size (h : Heap) (P : Addr) : (erase h P).objs.size = h.objs.size := (Heap.SameBut.update h P _).1
theorem erase_other {h : Heap} {P b : Addr} (hb : b ≠ P) : (erase h P).get? b = h.get? b := Heap.get?_update_other _ _ (Ne.symm hb)
theorem erase_self (h : Heap) (P : Addr) : (erase h P).get? P = none := by
  cases h with
  | mk objs l =>
    simp only [erase, Heap.update, Heap.get?, Array.getElem?_modify, if_true]
    cases objs[P]? with
    | none => rfl
    | some o => rfl
theorem erase_keep {h : Heap} {P b : Addr} {o : Obj} (e : (erase h P).get? b = some o) : h.get? b = some o := by
  by_cases hb : b = P
  · subst hb; rw [erase_self] at e; cases e
  · rwa [erase_other hb] at e

theorem repl_of {prog : Program} {w : World} {X : Addr → Prop} {h : Heap} : ∀ {vs : List Value} {ns : List Int}, IntsAre vs ns → RepL prog w X h vs (ns.map .int)
  | _, _, .nil => .nil
  | _, _, .cons n t r => .cons (.int n t) (repl_of r)

theorem lk_mem {β : Type} : ∀ {l : List (Addr × β)} {a : Addr} {o : β}, l.lookup a = some o → (a, o) ∈ l
  | (k, v) :: r, a, o, h => by
    rw [List.lookup_cons] at h
    split at h
    · rename_i q
      have : a = k := by simpa using q
      cases h; rw [this]; exact .head _
    · exact .tail _ (lk_mem h)

/-- no object of the top is a bare table -/
theorem no_tab (P : PySem.Params) : (hd.heap_39 P).all (fun p => match p.2.cls, p.2.data with | .none, .fields _ => false | _, _ => true) = true := by rfl

theorem join {w : World} {prog : Program} {s₁ : Shared} {mg mb : Str → Option Value} {P : Addr} {l : Addr} {vs : List Value} {ns : List Int} {k : Nat}
    (KX : (hd.heap_39 w.params).In s₁.heap) (g : s₁.heap.Ns mainGlobals mg) (b : s₁.heap.Ns builtinsNs mb) (nl : s₁.heap.NoLimit) (bt : ∀ x : Str, x ≠ "__name__" → mb x = bootBuiltins x) (hg : s₁.gens = #[])
    (M : ∃ bm ob, BMod s₁.heap mainGlobals mg bm ob) (IC : s₁.heap.IsCode 98 P #[]) (TA : s₁.heap.TableAt 98 P #[]) (hP : P ≠ cStatics)
    (hl : s₁.heap.get? l = some { cls := .type "list", data := .seq vs.toArray k }) (hI : IntsAre vs ns) (hlen : ns.length ≤ 63)
    (FX : ∀ K : List Nat, K.length = 8 → (∀ k ∈ K, k < 12) → ∀ top ∈ tops, ∀ up down : Int, (up = 1 ∨ up = -1) → (down = 1 ∨ down = -1) → Facts K top up down) :
    wpAny (model prog w) callerA (call (.ref 179) [.ref l]) (fun v s' => v = .bool true ∧ OldK s₁.heap s'.heap ∧ s'.os = s₁.os ∧ AllBare s'.gens) FF s₁ := by
  have nsP : ∀ {a m}, s₁.heap.Ns a m → (erase s₁.heap P).Ns a m := fun {a m} n => by
    obtain ⟨o, es, ep, e, h1, h2⟩ := n
    refine ⟨o, es, ep, ?_, h1, h2⟩
    rw [erase_other fun q => by rw [q, TA.2] at e; cases e; cases h1]
    exact e
  have KP : (hd.heap_39 w.params).In (erase s₁.heap P) := fun a o e => by
    rw [erase_other fun q => ?_]
    · exact KX a o e
    · have h1 := KX a o e
      rw [q, TA.2] at h1
      have h2 := List.all_eq_true.mp (no_tab w.params) (a, o) (lk_mem e)
      rw [← Option.some.inj h1] at h2
      cases h2
  let c : Wd := ⟨prog, w, hd.heap_39 w.params, mg, mb, erase s₁.heap P, ⟨nsP g, nsP b, let ⟨mc, h1, h2⟩ := nl; ⟨mc, nsP h1, h2⟩, KP⟩⟩
  have T : Tp c := ⟨rfl, fun x v h => mg_of KX g h, fun x h => mg_none_of KX g h, bt⟩
  have TT : Tab c 98 P := by
    refine ⟨erase_self _ _, ?_, ?_, ?_⟩
    · show P < (erase s₁.heap P).objs.size
      rw [erase_size]; exact IC.lt.2
    · show 98 < (erase s₁.heap P).objs.size
      rw [erase_size]; exact IC.lt.1
    · obtain ⟨bm, ob, M⟩ := M
      have := M.apart TA
      exact ⟨bm, ob, nsP M.ns, M.name, M.ne, (erase_other this.2).trans M.obj, M.cls, M.dict, M.data⟩
  have hlenH : (hostsP ns).length = 8 := by rw [hostsP, List.length_map, drawL_len]; rfl
  have hH : ∀ x ∈ hostsP ns, 0 ≤ x ∧ x < 12 := fun x hx => by
    obtain ⟨y, _, rfl⟩ := List.mem_map.mp hx
    exact ⟨Int.emod_nonneg _ (by decide), Int.emod_lt_of_pos _ (by decide)⟩
  have hK : hostsP ns = zis ((hostsP ns).map Int.toNat) := by
    show hostsP ns = ((hostsP ns).map Int.toNat).map _
    rw [List.map_map]
    refine (List.map_id _).symm.trans (List.map_congr_left fun x hx => ?_)
    have := (hH x hx).1
    simp only [id_eq, Function.comp_def]; omega
  have hK8 : ((hostsP ns).map Int.toNat).length = 8 := by rw [List.length_map]; exact hlenH
  have hK12 : ∀ k ∈ (hostsP ns).map Int.toNat, k < 12 := fun k hk => by
    obtain ⟨x, hx, rfl⟩ := List.mem_map.mp hk
    have := hH x hx; omega
  have FX' : Facts ((hostsP ns).map Int.toNat) (topP (totalP ns)) (upP (totalP ns)) (downP (totalP ns)) := FX _ hK8 hK12 _ (topP_mem _) _ _ (by unfold upP; omega) (by unfold downP; omega)
  have G : GlOk c (fnNames 179) [("_law_draw", .ref 111), ("_law_bounds", .ref 135), ("range", .type "range"), ("TupleComp", .ref 88), ("_law_first", .ref 142), ("_law_due", .ref 147), ("_law_nearest_first", .ref 152), ("_law_book", .ref 157), ("_law_plain_book", .ref 164), ("len", .builtin "len"), ("_law_lesser", .ref 169), ("_law_above", .ref 174)] := by walk_at "gl"
  have law : FnZ c TT.z (.ref 179) 4 [.list (ns.map .int)] (.bool true) := FnZ.of (n := 3) (def179 T) _ G.ok rfl fun env F hcd => walk_law (n := 0) T TT (by omega) hK rfl hK8 hK12 FX' F fun p hp => hp
  have lP : l ≠ P := fun q => by rw [q, TA.2] at hl; cases hl
  refine wpAny_mono (law callerA s₁ (fun b => b = P) [.ref l] ⟨⟨rfl, by decide, by decide⟩, ⟨fun b o e => erase_keep e, Nat.le_of_eq (erase_size _ _), AllBare.of_eq hg⟩, fun a q => by rw [q]; exact IC.lt.2⟩ (fun b q => q) ⟨#[], IC, TA⟩ (.cons (.list hl lP (repl_of hI)) .nil)) (fun v s' q => ?_) fun _ _ f => f
  obtain ⟨e, ⟨ps, IC', TA'⟩, r⟩ := q
  cases r
  refine ⟨rfl, ⟨fun b o eb => ?_, fun b o eb => ?_⟩, e.os, e.gens (AllBare.of_eq hg)⟩
  · by_cases hb : b = P
    · subst hb
      rw [TA.2] at eb; cases eb
      exact .inr (.inl ⟨TA.isCodeTable, rfl, #[], ps, rfl, by rw [TA'.2]; simp⟩)
    · exact .inl (e.keep b o hb eb)
  · by_cases hb : b = P
    · subst hb; exact ⟨_, TA'.2⟩
    · exact ⟨o, e.keep b o hb eb⟩
end
theorem well_list {P : PySem.Params} {h : Heap} {l : Addr} {xs : List WData} : Well P h (.ref l) (.list xs) → ∃ vs : List Value, h.get? l = some { cls := .type "list", data := .seq vs.toArray }
  | .list e _ => ⟨_, e⟩

set_option maxHeartbeats 8000000 in
theorem holds_of (FX : ∀ K : List Nat, K.length = 8 → (∀ k ∈ K, k < 12) → ∀ top ∈ tops, ∀ up down : Int, (up = 1 ∨ up = -1) → (down = 1 ∨ down = -1) → Facts K top up down) : PySem.Challenge.rw_xp0014_01.Holds := by
  refine hd ?_
  k_fill
  intro w s₀ s₁ mg mb G Y fa o pm cd doc dV kV ho hdd hcd hD hmg hg args vals as hpre hlay hrd hwl hlo
  have KX := kIn_of Y
  refine Ground.open G ?_
  intro T B D TE TW
  obtain ⟨c, P, hc, BB⟩ := based_of_top T (name := "add_callers") rfl (mg_of (v := .ref 99) KX T.g rfl) (KX 99 _ rfl) rfl
  have hc : (Value.ref 98) = .ref c := hc
  cases hc
  have hfa : fa = 179 := by
    have h1 : mg "law" = some (.ref 179) := mg_of (v := .ref 179) KX T.g rfl
    have h2 : mg "law" = some (.ref fa) := hmg
    rw [h1] at h2; cases h2; rfl
  subst hfa
  wrow_args hpre hlay hrd hwl hlo
  rename IntsAre _ _ => hI
  rename Well _ _ _ _ => w1
  rename Heap.IsList _ _ _ => hL
  rename (¬ ((63 : Nat) : Int) < _) => hlen
  obtain ⟨vs', hobj⟩ := well_list w1
  obtain ⟨ob, e1, e2, k, e3⟩ := hL
  rw [hobj] at e1
  cases e1
  have e4 := e3
  injection e4 with e5 e6
  rw [e5] at hobj
  refine wpAny_mono (join KX T.g T.b T.nolimit T.builtins hg (bmod_of_top T) BB.code BB.tab BB.notStatics hobj hI (by omega) FX) (fun v s' q => ?_) fun _ _ f => f.elim
  obtain ⟨rfl, hO, hos, hb⟩ := q
  exact ⟨.inl ⟨.bool true, .bool true, [], rfl, fun cls => rfl, .bool true, postW_of (by wrow_shape) (by wtm_val) (by str_meet; first | done | w_fin), fun _ => ⟨.nil, fun _ h => nomatch h⟩⟩, hO, hos, hb⟩
end Mine
namespace Mine

/-! from the text's numbers to naturals -/
noncomputable def sizesN (top : Str) : List Nat := if top == "7" then [1, 2] else [1, 2, 4, 4]
theorem sizesN_z (top : Str) : IsZ (sizesN top) := by unfold sizesN; split; exact .inl rfl; exact .inr rfl
theorem sizes_cast (top : Str) : sizesP top = (sizesN top).map fun (k : Nat) => (k : Int) := by unfold sizesP sizesN; split <;> rfl
theorem partP_N (top : Str) (a b : Nat) : partP (sizesP top) a b = partN (sizesN top) a b := by
  unfold partP partN
  rw [sizes_cast, List.filter_map, List.length_map]
  congr 2
  refine List.filter_congr fun k _ => ?_
  have e : ∀ a : Nat, (a : Int) / (k : Int) = ((a / k : Nat) : Int) := fun a => rfl
  simp only [Function.comp_def, e]
  by_cases h : a / k = b / k
  · simp [h]
  · have : ¬ ((a / k : Nat) : Int) = ((b / k : Nat) : Int) := by omega
    simp only [bne, beq_eq_false_iff_ne.mpr h, beq_eq_false_iff_ne.mpr this]
theorem cnt_N (A : List Nat) (k d : Nat) : cnt (zis A) k d = cn (· / k) d A := by
  unfold cnt
  rw [cn, List.countP_eq_length_filter, List.filter_map, List.length_map]
  congr 2
  refine List.filter_congr fun x _ => ?_
  have e : (x : Int) / (k : Int) = ((x / k : Nat) : Int) := rfl
  simp only [Function.comp_def, e]
  by_cases h : x / k = d
  · simp [h]
  · have : ¬ ((x / k : Nat) : Int) = (d : Int) := by omega
    simp only [beq_eq_false_iff_ne.mpr h, beq_eq_false_iff_ne.mpr this]
theorem sm_cast (F : Nat → Nat) : ∀ (m : Nat), ((List.range m).map fun d => ((F d : Nat) : Int)).sum = (sm m F : Nat)
  | 0 => rfl
  | m + 1 => by
    rw [range_snoc, sm_cast F m, sm_succ]; push_cast; rfl
theorem twelve (k : Nat) : ((12 : Int) / (k : Int)).toNat = 12 / k := rfl
theorem least_N (A B : List Nat) (top : Str) : leastP (zis A) (zis B) (sizesP top) = lowN (sizesN top) 4 A B := by
  unfold leastP lowN
  rw [sizes_cast, List.map_map]
  refine map_sum_congr fun k _ => ?_
  simp only [Function.comp_def, twelve]
  unfold loS phi
  rw [← sm_cast]
  congr 3
  funext d
  rw [cnt_N, cnt_N]; omega
theorem most_N (A B : List Nat) (top : Str) : mostP (zis A) (zis B) (sizesP top) = highN (sizesN top) 4 A B := by
  unfold mostP highN
  rw [sizes_cast, List.map_map]
  refine map_sum_congr fun k _ => ?_
  simp only [Function.comp_def, twelve]
  unfold hiS psi
  rw [← sm_cast]
  congr 3
  funext d
  rw [cnt_N, cnt_N]; omega

/-! the least first -/
theorem cmp_head {up down : Int} {L R : Nat → Int} : (cmpP (selU up down) L R < 0 → L 0 ≤ R 0) ∧ (¬ cmpP (selU up down) L R < 0 → R 0 ≤ L 0) := by
  show ((if L 0 < R 0 then -1 else if R 0 < L 0 then 1 else _ : Int) < 0 → _) ∧ (¬ (if L 0 < R 0 then -1 else if R 0 < L 0 then 1 else _ : Int) < 0 → _)
  split
  · exact ⟨fun _ => by omega, fun h => by omega⟩
  · split
    · exact ⟨fun h => by omega, fun _ => by omega⟩
    · exact ⟨fun _ => by omega, fun _ => by omega⟩
theorem firstP_min {up down : Int} : ∀ (l : List T3) (a : T3), ∀ q ∈ a :: l, (firstP (selU up down) t3key 1 a l).1 ≤ q.1
  | [], a, q, hq => by
    rcases List.mem_cons.mp hq with rfl | hq
    · exact Int.le_refl _
    · cases hq
  | b :: l, a, q, hq => by
    have hc := cmp_head (up := up) (down := down) (L := t3key b) (R := t3key a)
    show (firstP (selU up down) t3key 1 (if cmpP (selU up down) (t3key b) (t3key a) * 1 < 0 then b else a) l).1 ≤ q.1
    rw [Int.mul_one]
    split
    · rename_i h
      have h1 : b.1 ≤ a.1 := hc.1 h
      have h2 := firstP_min (up := up) (down := down) l b
      rcases List.mem_cons.mp hq with rfl | hq
      · exact Int.le_trans (h2 b (.head _)) h1
      · exact h2 q hq
    · rename_i h
      have h1 : a.1 ≤ b.1 := hc.2 h
      have h2 := firstP_min (up := up) (down := down) l a
      rcases List.mem_cons.mp hq with rfl | hq
      · exact h2 _ (.head _)
      · rcases List.mem_cons.mp hq with rfl | hq
        · exact Int.le_trans (h2 a (.head _)) h1
        · exact h2 q (.tail _ hq)

noncomputable def rowsOf (pr : Nat → Nat → Int) (I J : List Nat) : List T3 := I.flatMap fun i => J.map fun j => (pr i j, (i : Int), (j : Int))
theorem rows_mem {pr : Nat → Nat → Int} {I J : List Nat} {q : T3} : q ∈ rowsOf pr I J ↔ ∃ i ∈ I, ∃ j ∈ J, q = (pr i j, (i : Int), (j : Int)) := by
  unfold rowsOf
  rw [List.mem_flatMap]
  constructor
  · rintro ⟨i, hi, h⟩; obtain ⟨j, hj, rfl⟩ := List.mem_map.mp h; exact ⟨i, hi, j, hj, rfl⟩
  · rintro ⟨i, hi, j, hj, rfl⟩; exact ⟨i, hi, List.mem_map.mpr ⟨j, hj, rfl⟩⟩
theorem rows_filter (pr : Nat → Nat → Int) (v : Int) (i j : Nat) (J : List Nat) : ∀ (I : List Nat), (rowsOf pr I J).filter (apart (v, (i : Int), (j : Int))) = rowsOf pr (I.filter (· != i)) (J.filter (· != j))
  | [] => rfl
  | a :: I => by
    have ih := rows_filter pr v i j J I
    unfold rowsOf at ih ⊢
    rw [List.flatMap_cons, List.filter_append, ih, List.filter_cons]
    by_cases h : a = i
    · subst h
      have : (J.map fun j' => (pr a j', (a : Int), (j' : Int))).filter (apart (v, (a : Int), (j : Int))) = [] := by
        rw [List.filter_eq_nil_iff]
        intro q hq
        obtain ⟨j', _, rfl⟩ := List.mem_map.mp hq
        simp [apart]
      rw [this]; simp
    · have hne : (a != i) = true := by simpa using h
      rw [hne, if_pos rfl, List.flatMap_cons, List.filter_map]
      congr 2
      refine List.filter_congr fun j' _ => ?_
      have h1 : ¬ ((a : Int) = (i : Int)) := by omega
      by_cases h2 : j' = j
      · subst h2; simp [apart]
      · have h3 : ¬ ((j' : Int) = (j : Int)) := by omega
        have e1 : ((a : Int) != (i : Int)) = true := bne_iff_ne.mpr h1
        have e2 : ((j' : Int) != (j : Int)) = true := bne_iff_ne.mpr h3
        have e3 : (j' != j) = true := bne_iff_ne.mpr h2
        show ((a : Int) != (i : Int) && ((j' : Int) != (j : Int) && true)) = (j' != j)
        rw [e1, e2, e3]; rfl

theorem greedy_low {s t : Nat → Nat} {Z : List Nat} (hZ : IsZ Z) (hs : ∀ i, s i < 12) {up down : Int} : ∀ (n : Nat) (I J : List Nat) (k : Nat), I.length = n → J.length = n → I.Nodup → J.Nodup → n ≤ k →
    greedyP up down k (rowsOf (fun i j => (partN Z (s i) (t j) : Int)) I J) = lowN Z n (I.map s) (J.map t) ∧
      ∃ L, Pr I J L ∧ (L.map fun p => (partN Z (s p.1) (t p.2) : Int)).sum = lowN Z n (I.map s) (J.map t)
  | 0, I, J, k, hI, hJ, _, _, _ => by
    have : I = [] := List.length_eq_zero_iff.mp hI
    have : J = [] := List.length_eq_zero_iff.mp hJ
    subst I; subst J
    refine ⟨?_, [], ⟨.nil, .nil⟩, (low0 Z).symm⟩
    rw [show lowN Z 0 (List.map s []) (List.map t []) = 0 from low0 Z]
    cases k <;> rfl
  | n + 1, I, J, 0, _, _, _, _, hk => by omega
  | n + 1, I, J, k + 1, hI, hJ, nI, nJ, hk => by
    cases hr : rowsOf (fun i j => (partN Z (s i) (t j) : Int)) I J with
    | nil =>
      cases I with
      | nil => cases hI
      | cons i I => cases J with
        | nil => cases hJ
        | cons j J => exact absurd hr (by simp [rowsOf])
    | cons r rs =>
      have hbm : bestP up down (r :: rs) ∈ r :: rs := bestP_mem
      have hmin : ∀ q ∈ r :: rs, (bestP up down (r :: rs)).1 ≤ q.1 := firstP_min rs r
      rw [← hr] at hbm hmin
      obtain ⟨i, hi, j, hj, hb⟩ := rows_mem.mp hbm
      have hm : ∀ i' ∈ I, ∀ j' ∈ J, partN Z (s i) (t j) ≤ partN Z (s i') (t j') := fun i' hi' j' hj' => by
        have := hmin _ (rows_mem.mpr ⟨i', hi', j', hj', rfl⟩)
        rw [hb] at this
        simp only at this
        omega
      have pI := List.perm_cons_erase hi
      have pJ := List.perm_cons_erase hj
      obtain ⟨ih1, L, hL, hsum⟩ := greedy_low (t := t) hZ hs (up := up) (down := down) n (I.erase i) (J.erase j) k (by rw [List.length_erase_of_mem hi]; omega) (by rw [List.length_erase_of_mem hj]; omega) (nI.erase i) (nJ.erase j) (by omega)
      have hstep := low_step (s := s) (t := t) hZ hs (n := n) pI pJ hm
      constructor
      · show (bestP up down (r :: rs)).1 + greedyP up down k ((r :: rs).filter (apart (bestP up down (r :: rs)))) = _
        rw [← hr, hb, rows_filter, ← nI.erase_eq_filter, ← nJ.erase_eq_filter, ih1, hstep]
      · refine ⟨(i, j) :: L, ⟨(hL.fst.cons i).trans pI.symm, (hL.snd.cons j).trans pJ.symm⟩, ?_⟩
        rw [List.map_cons, List.sum_cons, hsum, hstep]
end Mine
namespace Mine

noncomputable def abc : List (Nat × Nat × Nat) := (List.range 4).flatMap fun a => (List.range 4).flatMap fun b => if b != a then (List.range 4).flatMap fun c => if c != a && c != b then [(a, b, c)] else [] else []
theorem pairP_abc (pr : Nat → Nat → Int) : pairP pr = abc.map fun q => rowP pr q.1 q.2.1 q.2.2 := by rfl
theorem abc_ok : ∀ q ∈ abc, q.1 < 4 ∧ q.2.1 < 4 ∧ q.2.2 < 4 ∧ q.2.1 ≠ q.1 ∧ q.2.2 ≠ q.1 ∧ q.2.2 ≠ q.2.1 := by decide +kernel
theorem abc_all : ∀ a b c : Fin 4, b ≠ a → c ≠ a → c ≠ b → (a.val, b.val, c.val) ∈ abc := by decide +kernel
theorem abc_sorted : abc.Pairwise fun p q => p.1 = q.1 → p.2.1 = q.2.1 → p.2.2 ≤ q.2.2 := by decide +kernel
theorem abc_inj : ∀ u ∈ ([1, -1] : List Int), ∀ d ∈ ([1, -1] : List Int), (abc.map fun q => 64 * (u * (q.1 : Int)) + 8 * (d * (q.2.1 : Int)) + (q.2.2 : Int)).Nodup := by decide +kernel

noncomputable def In3 (p : Rw) : Prop := 0 ≤ p.2.1 ∧ p.2.1 ≤ 3 ∧ 0 ≤ p.2.2.1 ∧ p.2.2.1 ≤ 3 ∧ 0 ≤ p.2.2.2 ∧ p.2.2.2 ≤ 3
noncomputable def Rr (p q : Rw) : Prop := In3 p ∧ In3 q ∧ (p.2.1 = q.2.1 → p.2.2.1 = q.2.2.1 → p.2.2.2 ≤ q.2.2.2)
noncomputable def wt (u d : Int) (p : Rw) : Int := 64 * (u * p.2.1) + 8 * (d * p.2.2.1) + p.2.2.2
noncomputable def Le (g u d : Int) (x q : Rw) : Prop := g * x.1 < g * q.1 ∨ (x.1 = q.1 ∧ wt u d x ≤ wt u d q)
theorem Le.trans {g u d : Int} {x y z : Rw} (h : Le g u d x y) (k : Le g u d y z) : Le g u d x z := by
  unfold Le at *
  rcases h with h | ⟨h1, h2⟩
  · rcases k with k | ⟨k1, k2⟩
    · exact .inl (by omega)
    · exact .inl (by rw [← k1]; exact h)
  · rcases k with k | ⟨k1, k2⟩
    · exact .inl (by rw [h1]; exact k)
    · exact .inr ⟨h1.trans k1, by omega⟩
theorem pair_in {pr : Nat → Nat → Int} {p : Rw} (h : p ∈ pairP pr) : In3 p := by
  rw [pairP_abc] at h
  obtain ⟨q, hq, rfl⟩ := List.mem_map.mp h
  obtain ⟨h1, h2, h3, _⟩ := abc_ok q hq
  refine ⟨?_, ?_, ?_, ?_, ?_, ?_⟩ <;> simp only [rowP] <;> omega
theorem pairs_sorted (pr : Nat → Nat → Int) : (pairP pr).Pairwise Rr := by
  have h : (pairP pr).Pairwise fun p q => p.2.1 = q.2.1 → p.2.2.1 = q.2.2.1 → p.2.2.2 ≤ q.2.2.2 := by
    rw [pairP_abc, List.pairwise_map]
    exact abc_sorted.imp fun {a b} h e1 e2 => by
      simp only [rowP] at e1 e2 ⊢
      have := h (by omega) (by omega)
      omega
  exact h.imp_of_mem fun {a b} ha hb h => ⟨pair_in ha, pair_in hb, h⟩

theorem first_le {g u d turn : Int} {sel : List (Nat × Int)} (hstep : ∀ a b, Rr a b → (cmpP sel (r4key b) (r4key a) * turn < 0 → Le g u d b a) ∧ (¬ cmpP sel (r4key b) (r4key a) * turn < 0 → Le g u d a b)) :
    ∀ (l : List Rw) (a : Rw), (a :: l).Pairwise Rr → ∀ q ∈ a :: l, Le g u d (firstP sel r4key turn a l) q
  | [], a, _, q, hq => by
    rcases List.mem_cons.mp hq with rfl | hq
    · exact .inr ⟨rfl, Int.le_refl _⟩
    · cases hq
  | b :: l, a, hp, q, hq => by
    rw [List.pairwise_cons] at hp
    have hp2 := List.pairwise_cons.mp hp.2
    have hab := hstep a b (hp.1 b (.head _))
    show Le g u d (firstP sel r4key turn (if cmpP sel (r4key b) (r4key a) * turn < 0 then b else a) l) q
    split
    · rename_i h
      have h1 := hab.1 h
      have h2 := first_le hstep l b hp.2
      rcases List.mem_cons.mp hq with rfl | hq
      · exact (h2 b (.head _)).trans h1
      · exact h2 q hq
    · rename_i h
      have h1 := hab.2 h
      have h2 := first_le hstep l a (List.pairwise_cons.mpr ⟨fun c hc => hp.1 c (.tail _ hc), hp2.2⟩)
      rcases List.mem_cons.mp hq with rfl | hq
      · exact h2 _ (.head _)
      · rcases List.mem_cons.mp hq with rfl | hq
        · exact (h2 a (.head _)).trans h1
        · exact h2 q (.tail _ hq)

theorem if_sg {g s x y r : Int} (hg : g = 1 ∨ g = -1) (hs : s = 1 ∨ s = -1) : (if x < y then -s else if y < x then s else r) * g < 0 ↔ g * s * x < g * s * y ∨ (x = y ∧ r * g < 0) := by
  have h : ∀ S R : Int, S = 1 ∨ S = -1 → ((if x < y then -S else if y < x then S else R) < 0 ↔ S * x < S * y ∨ (x = y ∧ R < 0)) := by
    rintro S R (rfl | rfl) <;> split <;> (first | omega | (split <;> omega))
  have e : (if x < y then -s else if y < x then s else r) * g = if x < y then -(g * s) else if y < x then g * s else r * g := by
    split
    · rw [Int.neg_mul, Int.mul_comm]
    · split
      · exact Int.mul_comm ..
      · rfl
  rw [e]
  exact h _ _ (by rcases hg with rfl | rfl <;> rcases hs with rfl | rfl <;> decide)
theorem sg_inj {s x y : Int} (hs : s = 1 ∨ s = -1) (h : s * x = s * y) : x = y := by rcases hs with rfl | rfl <;> omega
theorem sg_bd {s x : Int} (hs : s = 1 ∨ s = -1) (h0 : 0 ≤ x) (h3 : x ≤ 3) : -3 ≤ s * x ∧ s * x ≤ 3 := by rcases hs with rfl | rfl <;> omega
theorem wt_lt {pa pb qa qb ca cb : Int} (h1 : -3 ≤ qa ∧ qa ≤ 3) (h2 : -3 ≤ qb ∧ qb ≤ 3) (a0 : 0 ≤ ca) (a3 : ca ≤ 3) (b0 : 0 ≤ cb) (b3 : cb ≤ 3) (h : pb < pa ∨ (pb = pa ∧ (qb < qa ∨ (qb = qa ∧ cb ≤ ca)))) : 64 * pb + 8 * qb + cb ≤ 64 * pa + 8 * qa + ca := by omega
theorem stepG {g up down : Int} (hg : g = 1 ∨ g = -1) (hu : up = 1 ∨ up = -1) (hd : down = 1 ∨ down = -1) (a b : Rw) (h : Rr a b) :
    (cmpP (selU up down) (r4key b) (r4key a) * g < 0 → Le g (g * up) (g * down) b a) ∧ (¬ cmpP (selU up down) (r4key b) (r4key a) * g < 0 → Le g (g * up) (g * down) a b) := by
  obtain ⟨va, aa, ba, ca⟩ := a
  obtain ⟨vb, ab, bb, cb⟩ := b
  obtain ⟨⟨_, _, a2, a3, a4, a5⟩, ⟨_, _, b2, b3, b4, b5⟩, hc⟩ := h
  have e : cmpP (selU up down) (r4key (vb, ab, bb, cb)) (r4key (va, aa, ba, ca)) = if vb < va then -1 else if va < vb then 1 else if ab < aa then -up else if aa < ab then up else if bb < ba then -down else if ba < bb then down else 0 := rfl
  rw [e, if_sg hg (.inl rfl), if_sg hg hu, if_sg hg hd, Int.mul_one]
  have ug : g * up = 1 ∨ g * up = -1 := by rcases hg with rfl | rfl <;> rcases hu with rfl | rfl <;> decide
  have dg : g * down = 1 ∨ g * down = -1 := by rcases hg with rfl | rfl <;> rcases hd with rfl | rfl <;> decide
  have qa := sg_bd dg a2 a3
  have qb := sg_bd dg b2 b3
  refine ⟨fun q => ?_, fun q => ?_⟩
  · refine q.imp id fun q => ⟨q.1, wt_lt qa qb a4 a5 b4 b5 (q.2.imp id fun q => ⟨congrArg _ q.1, q.2.imp id fun q => absurd q.2 (by rw [Int.zero_mul]; decide)⟩)⟩
  · have q := not_or.mp q
    refine (Int.lt_or_eq_of_le (Int.not_lt.mp q.1)).imp id fun e1 => ?_
    have e1 := sg_inj hg e1
    refine ⟨e1, wt_lt qb qa b4 b5 a4 a5 ?_⟩
    have q := not_or.mp fun z => q.2 ⟨e1.symm, z⟩
    refine (Int.lt_or_eq_of_le (Int.not_lt.mp q.1)).imp id fun e2 => ⟨e2, ?_⟩
    have q := not_or.mp fun z => q.2 ⟨(sg_inj ug e2).symm, z⟩
    exact (Int.lt_or_eq_of_le (Int.not_lt.mp q.1)).imp id fun e3 => ⟨e3, hc (sg_inj ug e2) (sg_inj dg e3)⟩
theorem step1 {up down : Int} (hu : up = 1 ∨ up = -1) (hd : down = 1 ∨ down = -1) (a b : Rw) (h : Rr a b) :
    (cmpP (selU up down) (r4key b) (r4key a) * 1 < 0 → Le 1 up down b a) ∧ (¬ cmpP (selU up down) (r4key b) (r4key a) * 1 < 0 → Le 1 up down a b) := by
  have k := stepG (.inl rfl) hu hd a b h
  rwa [Int.one_mul, Int.one_mul] at k
theorem step2 {up down : Int} (hu : up = 1 ∨ up = -1) (hd : down = 1 ∨ down = -1) (a b : Rw) (h : Rr a b) :
    (cmpP (selU up down) (r4key b) (r4key a) * (-1) < 0 → Le (-1) (-up) (-down) b a) ∧ (¬ cmpP (selU up down) (r4key b) (r4key a) * (-1) < 0 → Le (-1) (-up) (-down) a b) := by
  have k := stepG (.inr rfl) hu hd a b h
  rwa [Int.neg_one_mul, Int.neg_one_mul] at k

theorem firstR_mem {sel : List (Nat × Int)} {turn : Int} {pr : Nat → Nat → Int} : firstL sel turn (pairP pr) ∈ pairP pr := by
  show firstP sel r4key turn (rowP pr 0 1 2) (pairP pr).tail ∈ _
  exact firstP_mem (pairP pr).tail (rowP pr 0 1 2)

theorem due_of {pr : Nat → Nat → Int} {g u d turn worth : Int} {sel : List (Nat × Int)} (hg : g = 1 ∨ g = -1) (hu : u = 1 ∨ u = -1) (hd : d = 1 ∨ d = -1)
    (hstep : ∀ a b, Rr a b → (cmpP sel (r4key b) (r4key a) * turn < 0 → Le g u d b a) ∧ (¬ cmpP sel (r4key b) (r4key a) * turn < 0 → Le g u d a b))
    (hall : ∀ p ∈ pairP pr, g * worth ≤ g * p.1) (hex : ∃ p ∈ pairP pr, p.1 = worth) : DueOk (pairP pr) worth u d (firstL sel turn (pairP pr)) := by
  have hle : ∀ q ∈ pairP pr, Le g u d (firstL sel turn (pairP pr)) q := fun q hq => by
    show Le g u d (firstP sel r4key turn (rowP pr 0 1 2) (pairP pr).tail) q
    exact first_le hstep (pairP pr).tail (rowP pr 0 1 2) (pairs_sorted pr) q hq
  have hmem := firstR_mem (sel := sel) (turn := turn) (pr := pr)
  generalize firstL sel turn (pairP pr) = x at hle hmem
  have hval : x.1 = worth := by
    obtain ⟨p, hp, hpv⟩ := hex
    have h1 := hle p hp
    have h2 := hall x hmem
    unfold Le at h1
    rcases hg with rfl | rfl <;> omega
  refine ⟨hmem, hval, fun y hy hyv => ?_, ?_, fun y hy => ?_, fun y hy z hz h1 h2 => ?_⟩
  · have h1 := hle y hy
    unfold Le at h1
    rcases h1 with h1 | ⟨_, h1⟩
    · rw [hval, hyv] at h1; omega
    · exact h1
  · rw [pairP_abc, List.map_map]
    exact abc_inj u (by rcases hu with rfl | rfl <;> simp) d (by rcases hd with rfl | rfl <;> simp)
  · obtain ⟨_, _, h1, h2, h3, h4⟩ := pair_in hy
    rcases hd with rfl | rfl <;> omega
  · rcases hu with rfl | rfl <;> rcases hd with rfl | rfl <;> omega

/-! the hosts -/
noncomputable def sOf (K : List Nat) (i : Nat) : Nat := K.getD i 0
noncomputable def tOf (K : List Nat) (j : Nat) : Nat := K.getD (4 + j) 0
theorem getD_lt {K : List Nat} (h : ∀ k ∈ K, k < 12) (i : Nat) : K.getD i 0 < 12 := by
  rw [List.getD_eq_getElem?_getD]
  cases e : K[i]? with
  | none => decide
  | some x => exact h x (List.mem_of_getElem? e)
theorem prP_N (top : Str) (K : List Nat) : prP top K = fun i j => (partN (sizesN top) (sOf K i) (tOf K j) : Int) := by
  funext i j
  exact partP_N top _ _
theorem take_s {K : List Nat} (h : K.length = 8) : K.take 4 = [0, 1, 2, 3].map (sOf K) ∧ K.drop 4 = [0, 1, 2, 3].map (tOf K) := by
  obtain ⟨a, b, c, d, e, f, g, i, rfl⟩ := eight h
  exact ⟨rfl, rfl⟩

section
variable {K : List Nat} {top : Str} (h8 : K.length = 8) (h12 : ∀ k ∈ K, k < 12)
include h8 h12
theorem rows_between : ∀ p ∈ pairP (prP top K), lowN (sizesN top) 4 (K.take 4) (K.drop 4) ≤ p.1 ∧ p.1 ≤ highN (sizesN top) 4 (K.take 4) (K.drop 4) := fun p hp => by
  rw [pairP_abc] at hp
  obtain ⟨⟨a, b, c⟩, hq, rfl⟩ := List.mem_map.mp hp
  obtain ⟨ha, hb, hc, h1, h2, h3⟩ := abc_ok _ hq
  have hL := row_pairing ha hb hc h1 h2 h3
  have := pr_bounds (s := sOf K) (t := tOf K) (sizesN_z top) (getD_lt h12) hL (n := 4) rfl
  rw [← (take_s h8).1, ← (take_s h8).2] at this
  have e : (rowP (prP top K) a b c).1 = ([(0, a), (1, b), (2, c), (3, 6 - a - b - c)].map fun p => (partN (sizesN top) (sOf K p.1) (tOf K p.2) : Int)).sum := by
    rw [prP_N]
    simp only [rowP, List.map_cons, List.map_nil, List.sum_cons, List.sum_nil]
    omega
  rw [e]; exact this
theorem row_of {L : List (Nat × Nat)} (hL : Pr [0, 1, 2, 3] [0, 1, 2, 3] L) : ∃ p ∈ pairP (prP top K), p.1 = (L.map fun p => (partN (sizesN top) (sOf K p.1) (tOf K p.2) : Int)).sum := by
  obtain ⟨a, b, c, ha, hb, hc, h1, h2, h3, e⟩ := pairing_row (F := fun i j => (partN (sizesN top) (sOf K i) (tOf K j) : Int)) hL
  refine ⟨rowP (prP top K) a b c, ?_, ?_⟩
  · rw [pairP_abc]
    exact List.mem_map.mpr ⟨(a, b, c), abc_all ⟨a, ha⟩ ⟨b, hb⟩ ⟨c, hc⟩ (fun q => h1 (congrArg Fin.val q)) (fun q => h2 (congrArg Fin.val q)) (fun q => h3 (congrArg Fin.val q)), rfl⟩
  · rw [e, prP_N]; rfl

theorem facts_greedy (up down : Int) : greedyP up down 16 (rows0 (prP top K)) = leastP (zis (K.take 4)) (zis (K.drop 4)) (sizesP top) := by
  have := (greedy_low (s := sOf K) (t := tOf K) (sizesN_z top) (getD_lt h12) (up := up) (down := down) 4 [0, 1, 2, 3] [0, 1, 2, 3] 16 rfl rfl (by decide) (by decide) (by decide)).1
  rw [least_N, (take_s h8).1, (take_s h8).2, prP_N]
  exact this
theorem facts_due1 {up down : Int} (hu : up = 1 ∨ up = -1) (hd : down = 1 ∨ down = -1) : DueOk (pairP (prP top K)) (leastP (zis (K.take 4)) (zis (K.drop 4)) (sizesP top)) up down (firstL (selU up down) 1 (pairP (prP top K))) := by
  rw [least_N]
  refine due_of (g := 1) (.inl rfl) hu hd (step1 hu hd) (fun p hp => ?_) ?_
  · have := (rows_between h8 h12 p hp).1; omega
  · obtain ⟨L, hL, e⟩ := (greedy_low (s := sOf K) (t := tOf K) (sizesN_z top) (getD_lt h12) (up := up) (down := down) 4 [0, 1, 2, 3] [0, 1, 2, 3] 16 rfl rfl (by decide) (by decide) (by decide)).2
    obtain ⟨p, hp, hv⟩ := row_of (top := top) h8 h12 hL
    exact ⟨p, hp, by rw [hv, e, (take_s h8).1, (take_s h8).2]⟩
theorem facts_due2 {up down : Int} (hu : up = 1 ∨ up = -1) (hd : down = 1 ∨ down = -1) : DueOk (pairP (prP top K)) (mostP (zis (K.take 4)) (zis (K.drop 4)) (sizesP top)) (-up) (-down) (firstL (selU up down) (-1) (pairP (prP top K))) := by
  rw [most_N]
  refine due_of (g := -1) (.inr rfl) (by omega) (by omega) (step2 hu hd) (fun p hp => ?_) ?_
  · have := (rows_between h8 h12 p hp).2; omega
  · obtain ⟨L, hL, e⟩ := ex_high (sOf K) (tOf K) (sizesN_z top) (getD_lt h12) 4 [0, 1, 2, 3] [0, 1, 2, 3] rfl rfl
    obtain ⟨p, hp, hv⟩ := row_of (top := top) h8 h12 hL
    exact ⟨p, hp, by rw [hv, e, (take_s h8).1, (take_s h8).2]⟩
end
end Mine
namespace Mine

noncomputable def atD (m : Bk) (k : Str) : Int × Int := (atK m k).getD (0, 0)
theorem atK_none {α : Type} {m : List (Str × α)} {k : Str} (h : k ∉ m.map (·.1)) : atK m k = none := by
  unfold atK
  rw [List.find?_eq_none.mpr fun x hx => by
    have : x.1 ≠ k := fun e => h (List.mem_map.mpr ⟨x, hx, e⟩)
    simpa using this]
  rfl
theorem atK_put {α : Type} {k k' : Str} {v : α} : ∀ (m : List (Str × α)), atK (putK m k v) k' = if k' = k then some v else atK m k' := fun m => by
  unfold putK
  split
  · rename_i h
    unfold atK
    induction m with
    | nil => simp at h
    | cons p m ih =>
      obtain ⟨a, b⟩ := p
      by_cases hk : k' = k
      · subst hk
        rw [if_pos rfl]
        by_cases ha : a = k'
        · subst ha; simp
        · have h' : (m.any fun kv => decide (kv.1 = k')) = true := by simpa [ha] using h
          have := ih h'
          rw [if_pos rfl] at this
          simp only [List.map_cons, if_neg ha]
          rw [List.find?_cons]
          simp only [ha, decide_false]
          exact this
      · rw [if_neg hk]
        have e : ∀ m : List (Str × α), ((m.map fun kv => if kv.1 = k then (kv.1, v) else kv).find? fun kv => decide (kv.1 = k')).map (·.2) = (m.find? fun kv => decide (kv.1 = k')).map (·.2) := by
          intro m
          induction m with
          | nil => rfl
          | cons q m ih2 =>
            simp only [List.map_cons, List.find?_cons]
            by_cases hq : q.1 = k
            · have : ¬ k = k' := fun z => hk z.symm
              simp only [hq, if_true, this, decide_false]
              exact ih2
            · simp only [hq, if_false]
              by_cases hq2 : q.1 = k'
              · simp [hq2]
              · simp only [hq2, decide_false]; exact ih2
        exact e _
  · rename_i h
    unfold atK
    rw [List.find?_append]
    by_cases hk : k' = k
    · subst hk
      rw [if_pos rfl]
      have : m.find? (fun kv => decide (kv.1 = k')) = none := by
        rw [List.find?_eq_none]
        intro x hx q
        exact h (List.any_eq_true.mpr ⟨x, hx, q⟩)
      rw [this]; simp
    · rw [if_neg hk]
      have : ¬ k = k' := fun z => hk z.symm
      cases m.find? (fun kv => decide (kv.1 = k')) with
      | none => simp [this]
      | some x => simp
theorem atD_add (m : Bk) (k k' : Str) (one : Int × Int) : atD (addB m k one) k' = if k' = k then (one.1 + (atD m k').1, one.2 + (atD m k').2) else atD m k' := by
  unfold atD addB
  rw [atK_put]
  by_cases h : k' = k
  · subst h
    rw [if_pos rfl, if_pos rfl]
    cases atK m k' with
    | none => simp
    | some p => simp
  · rw [if_neg h, if_neg h]
theorem atD_addW (k : Str) (one : Int × Int) : ∀ (w : List Str) (m : Bk), w.Nodup → atD (addW m w one) k = if k ∈ w then (one.1 + (atD m k).1, one.2 + (atD m k).2) else atD m k
  | [], m, _ => by simp [addW]
  | x :: w, m, hn => by
    rw [List.nodup_cons] at hn
    show atD (addW (addB m x one) w one) k = _
    rw [atD_addW k one w _ hn.2, atD_add]
    by_cases h1 : k = x
    · subst h1; simp [hn.1]
    · simp [h1]

theorem keys_add {m : Bk} {k x : Str} {one : Int × Int} (h : k ∈ (addB m x one).map (·.1)) : k = x ∨ k ∈ m.map (·.1) := by
  unfold addB at h
  rw [putK_keys] at h
  split at h
  · exact .inr h
  · rcases List.mem_append.mp h with h | h
    · exact .inr h
    · exact .inl (by simpa using h)
theorem keys_addW {k : Str} {one : Int × Int} : ∀ {w : List Str} {m : Bk}, k ∈ (addW m w one).map (·.1) → k ∈ w ∨ k ∈ m.map (·.1)
  | [], m, h => .inr h
  | x :: w, m, h => by
    rcases keys_addW (w := w) (m := addB m x one) h with h | h
    · exact .inl (.tail _ h)
    · rcases keys_add h with rfl | h
      · exact .inl (.head _)
      · exact .inr h
theorem keys_book {k : Str} : ∀ {W : List (List Str)} {i : Nat} {m : Bk}, k ∈ (bookP W i m).map (·.1) → (∃ w ∈ W, k ∈ w) ∨ k ∈ m.map (·.1)
  | [], _, _, h => .inr h
  | w :: W, i, m, h => by
    rcases keys_book (W := W) h with ⟨v, hv, h⟩ | h
    · exact .inl ⟨v, .tail _ hv, h⟩
    · rcases keys_addW h with h | h
      · exact .inl ⟨w, .head _, h⟩
      · exact .inr h

theorem sum_sub {G : Str → Int} {A U : List Str} (hA : A.Nodup) (hU : U.Nodup) (hs : ∀ k ∈ A, k ∈ U) (h0 : ∀ k ∈ U, k ∉ A → G k = 0) : (A.map G).sum = (U.map G).sum := by
  have hp : A.Perm (U.filter fun k => decide (k ∈ A)) := (List.perm_ext_iff_of_nodup hA (List.filter_sublist.nodup hU)).mpr fun k => by
    rw [List.mem_filter]
    constructor
    · intro h; exact ⟨hs k h, decide_eq_true h⟩
    · intro h; exact of_decide_eq_true h.2
  rw [perm_sum (hp.map G)]
  have e : ∀ (U : List Str), (∀ k ∈ U, k ∉ A → G k = 0) → ((U.filter fun k => decide (k ∈ A)).map G).sum = (U.map G).sum := by
    intro U
    induction U with
    | nil => intro _; rfl
    | cons u U ih =>
      intro h
      have ih := ih fun k hk => h k (.tail _ hk)
      rw [List.filter_cons, List.map_cons, List.sum_cons]
      by_cases hu : u ∈ A
      · rw [if_pos (decide_eq_true hu), List.map_cons, List.sum_cons, ih]
      · rw [if_neg (by simpa using hu), ih, h u (.head _) hu]; omega
  exact e U h0

/-- keys and the domains they stand for -/
noncomputable abbrev Key := Str × Nat × Nat
structure KeysOk (w : Nat → List Str) (U : List Key) : Prop where
  nodup : (U.map (·.1)).Nodup
  all : ∀ x, x < 12 → ∀ k ∈ w x, k ∈ U.map (·.1)
  is : ∀ e ∈ U, ∀ x, x < 12 → (e.1 ∈ w x ↔ x / e.2.1 = e.2.2)
  ways : ∀ x, x < 12 → (w x).Nodup

theorem book_at {w : Nat → List Str} {U : List Key} (h : KeysOk w U) {K : List Nat} (h8 : K.length = 8) (h12 : ∀ k ∈ K, k < 12) {e : Key} (he : e ∈ U) :
    atD (bookP (K.map w) 0 []) e.1 = (((cn (· / e.2.1) e.2.2 (K.take 4) : Nat) : Int), ((cn (· / e.2.1) e.2.2 (K.drop 4) : Nat) : Int)) := by
  obtain ⟨a, b, c, d, p, q, r, s, rfl⟩ := eight h8
  have st : ∀ (m : Bk) (x : Nat) (one : Int × Int), x < 12 → atD (addW m (w x) one) e.1 = (((if x / e.2.1 = e.2.2 then 1 else 0 : Nat) : Int) * one.1 + (atD m e.1).1, ((if x / e.2.1 = e.2.2 then 1 else 0 : Nat) : Int) * one.2 + (atD m e.1).2) := fun m x one hx => by
    rw [atD_addW _ _ _ _ (h.ways x hx)]
    by_cases hh : x / e.2.1 = e.2.2
    · rw [if_pos ((h.is e he x hx).mpr hh), if_pos hh]; simp
    · rw [if_neg fun z => hh ((h.is e he x hx).mp z), if_neg hh]; simp
  have hx : ∀ x ∈ [a, b, c, d, p, q, r, s], x < 12 := h12
  simp only [List.mem_cons, List.not_mem_nil, or_false, forall_eq_or_imp, forall_eq] at hx
  obtain ⟨ha, hb, hc, hd, hp, hq, hr, hs⟩ := hx
  simp only [List.map_cons, List.map_nil, bookP, List.take, List.drop]
  rw [st _ s _ hs, st _ r _ hr, st _ q _ hq, st _ p _ hp, st _ d _ hd, st _ c _ hc, st _ b _ hb, st _ a _ ha]
  have o : oneP 0 = (1, 0) ∧ oneP (0 + 1) = (1, 0) ∧ oneP (0 + 1 + 1) = (1, 0) ∧ oneP (0 + 1 + 1 + 1) = (1, 0) ∧ oneP (0 + 1 + 1 + 1 + 1) = (0, 1) ∧ oneP (0 + 1 + 1 + 1 + 1 + 1) = (0, 1) ∧ oneP (0 + 1 + 1 + 1 + 1 + 1 + 1) = (0, 1) ∧ oneP (0 + 1 + 1 + 1 + 1 + 1 + 1 + 1) = (0, 1) := ⟨rfl, rfl, rfl, rfl, rfl, rfl, rfl, rfl⟩
  obtain ⟨o0, o1, o2, o3, o4, o5, o6, o7⟩ := o
  rw [o0, o1, o2, o3, o4, o5, o6, o7]
  rw [cn_cons, cn_cons, cn_cons, cn_cons, cn_cons, cn_cons, cn_cons, cn_cons]
  have z : atD [] e.1 = (0, 0) := rfl
  rw [z]
  simp only [cn, List.countP_nil, Int.mul_one, Int.mul_zero]
  refine Prod.ext ?_ ?_ <;> (simp only; omega)

theorem book_sum {w : Nat → List Str} {U : List Key} (h : KeysOk w U) {K : List Nat} (h8 : K.length = 8) (h12 : ∀ k ∈ K, k < 12) (F : Int × Int → Int) (h0 : F (0, 0) = 0) :
    ((bookP (K.map w) 0 []).map fun q => F q.2).sum = (U.map fun e => F (((cn (· / e.2.1) e.2.2 (K.take 4) : Nat) : Int), ((cn (· / e.2.1) e.2.2 (K.drop 4) : Nat) : Int))).sum := by
  have hn : ((bookP (K.map w) 0 []).map (·.1)).Nodup := bookP_nodup .nil
  have e1 : (bookP (K.map w) 0 []).map (fun q => F q.2) = ((bookP (K.map w) 0 []).map (·.1)).map fun k => F (atD (bookP (K.map w) 0 []) k) := by
    rw [List.map_map]
    refine List.map_congr_left fun q hq => ?_
    simp only [Function.comp_def, atD]
    rw [atK_mem hn (k := q.1) (v := q.2) hq]; rfl
  have e2 : (U.map fun e => F (((cn (· / e.2.1) e.2.2 (K.take 4) : Nat) : Int), ((cn (· / e.2.1) e.2.2 (K.drop 4) : Nat) : Int))) = (U.map (·.1)).map fun k => F (atD (bookP (K.map w) 0 []) k) := by
    rw [List.map_map]
    refine List.map_congr_left fun e he => ?_
    simp only [Function.comp_def]
    rw [book_at h h8 h12 he]
  rw [e1, e2]
  refine sum_sub hn h.nodup (fun k hk => ?_) (fun k hk hnk => ?_)
  · rcases keys_book hk with ⟨v, hv, hkv⟩ | h'
    · obtain ⟨x, hx, rfl⟩ := List.mem_map.mp hv
      exact h.all x (h12 x hx) k hkv
    · cases h'
  · have : atD (bookP (K.map w) 0 []) k = (0, 0) := by unfold atD; rw [atK_none hnk]; rfl
    simp only [this, h0]
end Mine
namespace Mine

noncomputable def tailK (ch : Nat → Nat) (top : Str) : List Key := (if top == "7" then [] else (List.range 3).map fun y => (secP (ch (4 * y)) top, 4, y)) ++ (if top == "local" then [(("local" : Str), 12, 0)] else [])
noncomputable def keyT (top : Str) : List Key := ((List.range 12).map fun m => ((wayP top m).headD "", 1, m)) ++ tailK chA top
noncomputable def keyL (top : Str) : List Key := ((List.range 6).map fun m => ((lowP top (2 * m)).headD "", 2, m)) ++ tailK lchA top
theorem keyT_1 : ∀ top ∈ tops, ((keyT top).map (·.1)).Nodup ∧ ∀ x : Fin 12, ∀ k ∈ wayP top x, k ∈ (keyT top).map (·.1) := tops_all (by decide +kernel) (by decide +kernel) (by decide +kernel)
theorem keyT_2 : ∀ top ∈ tops, ∀ e ∈ keyT top, ∀ x : Fin 12, (e.1 ∈ wayP top x ↔ x.val / e.2.1 = e.2.2) := tops_all (by decide +kernel) (by decide +kernel) (by decide +kernel)
theorem keyL_1 : ∀ top ∈ tops, ((keyL top).map (·.1)).Nodup ∧ ∀ x : Fin 12, ∀ k ∈ lowP top x, k ∈ (keyL top).map (·.1) := tops_all (by decide +kernel) (by decide +kernel) (by decide +kernel)
theorem keyL_2 : ∀ top ∈ tops, ∀ e ∈ keyL top, ∀ x : Fin 12, (e.1 ∈ lowP top x ↔ x.val / e.2.1 = e.2.2) := tops_all (by decide +kernel) (by decide +kernel) (by decide +kernel)
theorem keysT {top : Str} (h : top ∈ tops) : KeysOk (wayP top) (keyT top) where
  nodup := (keyT_1 top h).1
  all := fun x hx k hk => (keyT_1 top h).2 ⟨x, hx⟩ k hk
  is := fun e he x hx => keyT_2 top h e he ⟨x, hx⟩
  ways := fun x hx => (wayOk_at h hx).nodup
theorem keysL {top : Str} (h : top ∈ tops) : KeysOk (lowP top) (keyL top) where
  nodup := (keyL_1 top h).1
  all := fun x hx k hk => (keyL_1 top h).2 ⟨x, hx⟩ k hk
  is := fun e he x hx => keyL_2 top h e he ⟨x, hx⟩
  ways := fun x hx => (lowOk_all top h ⟨x, hx⟩).1
noncomputable def lenN (top : Str) : Nat := if top == "7" then 1 else if top == "com" then 2 else 3
theorem len_all : ∀ top ∈ tops, ∀ x : Fin 12, (wayP top x).length = lenN top := by decide +kernel

theorem min_cast (a b : Nat) : min (a : Int) (b : Int) = ((min a b : Nat) : Int) := by omega
theorem max_cast (a b : Nat) : max (0 : Int) ((a : Int) + (b : Int) - 4) = ((a + b - 4 : Nat) : Int) := by omega

section
variable {K : List Nat} (h8 : K.length = 8) (h12 : ∀ k ∈ K, k < 12)
include h8 h12
theorem all_four : cn (· / 12) 0 (K.take 4) = 4 ∧ cn (· / 12) 0 (K.drop 4) = 4 := by
  obtain ⟨a, b, c, d, p, q, r, s, rfl⟩ := eight h8
  simp only [List.mem_cons, List.not_mem_nil, or_false, forall_eq_or_imp, forall_eq] at h12
  obtain ⟨ha, hb, hc, hd, hp, hq, hr, hs⟩ := h12
  have e : ∀ x, x < 12 → x / 12 = 0 := fun x hx => Nat.div_eq_of_lt hx
  simp only [List.take, List.drop, cn_cons, e a ha, e b hb, e c hc, e d hd, e p hp, e q hq, e r hr, e s hs, if_true]
  exact ⟨rfl, rfl⟩

theorem facts_low {top : Str} (ht : top ∈ tops) : 8 * ((wayP top (K.getD 0 0)).length : Int) - lesserP (bookP (waysP top K) 0 []) - lesserP (bookP (lowsP top K) 0 []) = leastP (zis (K.take 4)) (zis (K.drop 4)) (sizesP top) := by
  have e1 := book_sum (keysT ht) h8 h12 (fun p => min p.1 p.2) rfl
  have e2 := book_sum (keysL ht) h8 h12 (fun p => min p.1 p.2) rfl
  rw [least_N, lesserP, lesserP, e1, e2, len_all top ht ⟨K.getD 0 0, getD_lt h12 0⟩]
  have c1 : ((List.range 12).map fun d => ((min (cn (· / 1) d (K.take 4)) (cn (· / 1) d (K.drop 4)) : Nat) : Int)).sum = phi (· / 1) (12 / 1) (K.take 4) (K.drop 4) := sm_cast _ 12
  have c2 : ((List.range 6).map fun d => ((min (cn (· / 2) d (K.take 4)) (cn (· / 2) d (K.drop 4)) : Nat) : Int)).sum = phi (· / 2) (12 / 2) (K.take 4) (K.drop 4) := sm_cast _ 6
  have c4 : ((List.range 3).map fun d => ((min (cn (· / 4) d (K.take 4)) (cn (· / 4) d (K.drop 4)) : Nat) : Int)).sum = phi (· / 4) (12 / 4) (K.take 4) (K.drop 4) := sm_cast _ 3
  obtain ⟨f1, f2⟩ := all_four h8 h12
  simp only [keyT, keyL, List.map_append, List.sum_append, List.map_map, Function.comp_def, min_cast]
  simp only [tops, List.mem_cons, List.not_mem_nil, or_false] at ht
  rcases ht with rfl | rfl | rfl
  · have k1 : ∀ ch, tailK ch "local" = ((List.range 3).map fun y => (secP (ch (4 * y)) "local", 4, y)) ++ [(("local" : Str), 12, 0)] := fun ch => rfl
    have k2 : sizesN "local" = [1, 2, 4, 4] := rfl
    have k3 : lenN "local" = 3 := rfl
    rw [k1, k1, k2, k3]
    simp only [List.map_append, List.sum_append, List.map_map, Function.comp_def, List.map_cons, List.map_nil, List.sum_cons, List.sum_nil, lowN, c1, c2, c4, f1, f2]
    omega
  · have k1 : ∀ ch, tailK ch "com" = ((List.range 3).map fun y => (secP (ch (4 * y)) "com", 4, y)) ++ [] := fun ch => rfl
    have k2 : sizesN "com" = [1, 2, 4, 4] := rfl
    have k3 : lenN "com" = 2 := rfl
    rw [k1, k1, k2, k3]
    simp only [List.map_append, List.sum_append, List.map_map, Function.comp_def, List.map_cons, List.map_nil, List.sum_cons, List.sum_nil, lowN, c1, c2, c4, f1, f2]
    omega
  · have k1 : ∀ ch, tailK ch "7" = [] := fun ch => rfl
    have k2 : sizesN "7" = [1, 2] := rfl
    have k3 : lenN "7" = 1 := rfl
    rw [k1, k1, k2, k3]
    simp only [List.map_append, List.sum_append, List.map_map, Function.comp_def, List.map_cons, List.map_nil, List.sum_cons, List.sum_nil, lowN, c1, c2, c4, f1, f2]
    omega
theorem facts_high {top : Str} (ht : top ∈ tops) : 8 * ((wayP top (K.getD 0 0)).length : Int) - aboveP (bookP (waysP top K) 0 []) - aboveP (bookP (lowsP top K) 0 []) = mostP (zis (K.take 4)) (zis (K.drop 4)) (sizesP top) := by
  have e1 := book_sum (keysT ht) h8 h12 (fun p => max 0 (p.1 + p.2 - 4)) rfl
  have e2 := book_sum (keysL ht) h8 h12 (fun p => max 0 (p.1 + p.2 - 4)) rfl
  rw [most_N, aboveP, aboveP, e1, e2, len_all top ht ⟨K.getD 0 0, getD_lt h12 0⟩]
  have c1 : ((List.range 12).map fun d => ((cn (· / 1) d (K.take 4) + cn (· / 1) d (K.drop 4) - 4 : Nat) : Int)).sum = psi (· / 1) (12 / 1) 4 (K.take 4) (K.drop 4) := sm_cast _ 12
  have c2 : ((List.range 6).map fun d => ((cn (· / 2) d (K.take 4) + cn (· / 2) d (K.drop 4) - 4 : Nat) : Int)).sum = psi (· / 2) (12 / 2) 4 (K.take 4) (K.drop 4) := sm_cast _ 6
  have c4 : ((List.range 3).map fun d => ((cn (· / 4) d (K.take 4) + cn (· / 4) d (K.drop 4) - 4 : Nat) : Int)).sum = psi (· / 4) (12 / 4) 4 (K.take 4) (K.drop 4) := sm_cast _ 3
  obtain ⟨f1, f2⟩ := all_four h8 h12
  simp only [keyT, keyL, List.map_append, List.sum_append, List.map_map, Function.comp_def, max_cast]
  simp only [tops, List.mem_cons, List.not_mem_nil, or_false] at ht
  rcases ht with rfl | rfl | rfl
  · have k1 : ∀ ch, tailK ch "local" = ((List.range 3).map fun y => (secP (ch (4 * y)) "local", 4, y)) ++ [(("local" : Str), 12, 0)] := fun ch => rfl
    have k2 : sizesN "local" = [1, 2, 4, 4] := rfl
    have k3 : lenN "local" = 3 := rfl
    rw [k1, k1, k2, k3]
    simp only [List.map_append, List.sum_append, List.map_map, Function.comp_def, List.map_cons, List.map_nil, List.sum_cons, List.sum_nil, highN, c1, c2, c4, f1, f2]
    omega
  · have k1 : ∀ ch, tailK ch "com" = ((List.range 3).map fun y => (secP (ch (4 * y)) "com", 4, y)) ++ [] := fun ch => rfl
    have k2 : sizesN "com" = [1, 2, 4, 4] := rfl
    have k3 : lenN "com" = 2 := rfl
    rw [k1, k1, k2, k3]
    simp only [List.map_append, List.sum_append, List.map_map, Function.comp_def, List.map_cons, List.map_nil, List.sum_cons, List.sum_nil, highN, c1, c2, c4, f1, f2]
    omega
  · have k1 : ∀ ch, tailK ch "7" = [] := fun ch => rfl
    have k2 : sizesN "7" = [1, 2] := rfl
    have k3 : lenN "7" = 1 := rfl
    rw [k1, k1, k2, k3]
    simp only [List.map_append, List.sum_append, List.map_map, Function.comp_def, List.map_cons, List.map_nil, List.sum_cons, List.sum_nil, highN, c1, c2, c4, f1, f2]
    omega
end
theorem facts (K : List Nat) (h8 : K.length = 8) (h12 : ∀ k ∈ K, k < 12) (top : Str) (ht : top ∈ tops) (up down : Int) (hu : up = 1 ∨ up = -1) (hd : down = 1 ∨ down = -1) : Facts K top up down where
  due1 := facts_due1 h8 h12 hu hd
  due2 := facts_due2 h8 h12 hu hd
  greedy := facts_greedy h8 h12 up down
  low := facts_low h8 h12 ht
  high := facts_high h8 h12 ht
theorem final_facts : PySem.Challenge.rw_xp0014_01.Holds := holds_of facts
end Mine

theorem PySem.Challenge.cw_xp0014_01_holds : PySem.Challenge.rw_xp0014_01.Holds := by
  exact Mine.final_facts
