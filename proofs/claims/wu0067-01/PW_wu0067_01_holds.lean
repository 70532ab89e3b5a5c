import PyProof.Rows.All
import Wide.All
import OpenK.AllK
import Wide.FinOn
import PySem.Challenge.RW_wu0067_01
set_option Elab.async false

section PartHd
open PySem PySem.W PyProof.Rows
namespace Mine
set_option maxRecDepth 100000 in
set_option maxHeartbeats 8000000 in
open_top hd for PySem.Challenge.rw_wu0067_01
end Mine
end PartHd

section PartM1
set_option linter.unusedVariables false
namespace Mine
section tab
variable {α : Type}

/-- insert x: the first one there that is greater goes on to the next row -/
def tabIns (lt : α → α → Bool) (x : α) : List (List α) → List (List α)
  | [] => [[x]]
  | row :: t => match row.find? (fun y => lt x y) with
    | none => (row ++ [x]) :: t
    | some y => (row.set (row.findIdx (fun y => lt x y)) x) :: tabIns lt y t

theorem tabIns_none {lt : α → α → Bool} {x : α} {row : List α} {t : List (List α)} (h : ∀ z ∈ row, lt x z = false) :
    tabIns lt x (row :: t) = (row ++ [x]) :: t := by
  have : row.find? (fun y => lt x y) = none := by
    rw [List.find?_eq_none]; intro z hz; simp [h z hz]
  simp [tabIns, this]

theorem tabIns_some {lt : α → α → Bool} {x y : α} {u v : List α} {t : List (List α)} (h : ∀ z ∈ u, lt x z = false) (hy : lt x y = true) :
    tabIns lt x ((u ++ y :: v) :: t) = (u ++ x :: v) :: tabIns lt y t := by
  have h1 : (u ++ y :: v).find? (fun y => lt x y) = some y := by
    rw [List.find?_append]
    have : u.find? (fun y => lt x y) = none := by
      rw [List.find?_eq_none]; intro z hz; simp [h z hz]
    rw [this]; simp [hy]
  have h2 : (u ++ y :: v).findIdx (fun y => lt x y) = u.length := by
    rw [List.findIdx_append]
    have : u.findIdx (fun y => lt x y) = u.length := by
      rw [List.findIdx_eq_length]; intro z hz; simp [h z hz]
    simp [this, List.findIdx_cons, hy]
  simp [tabIns, h1, h2]

structure Strict (lt : α → α → Bool) : Prop where
  irr : ∀ a, lt a a = false
  trans : ∀ a b c, lt a b = true → lt b c = true → lt a c = true
  tri : ∀ a b, a ≠ b → lt a b = true ∨ lt b a = true

theorem Strict.asymm {lt : α → α → Bool} (O : Strict lt) {a b : α} (h : lt a b = true) (h' : lt b a = true) : False := by
  have := O.trans a b a h h'
  rw [O.irr] at this; cases this

theorem Strict.not {lt : α → α → Bool} (O : Strict lt) {a b : α} (h : lt a b = true) : lt b a = false := by
  cases e : lt b a with
  | false => rfl
  | true => exact (O.asymm h e).elim

theorem Strict.ne {lt : α → α → Bool} (O : Strict lt) {a b : α} (h : lt a b = true) : a ≠ b := by
  intro e; subst e; rw [O.irr] at h; cases h

theorem Strict.gt_of {lt : α → α → Bool} (O : Strict lt) {a b : α} (h : lt a b = false) (hn : b ≠ a) : lt b a = true := by
  rcases O.tri b a hn with h' | h'
  · exact h'
  · rw [h] at h'; cases h'

/-- the rows of a table from row k on: each in order, none empty, its members told by P -/
def RowsOK (lt : α → α → Bool) (P : α → Nat → Prop) : Nat → List (List α) → Prop
  | k, [] => ∀ x j, k ≤ j → ¬ P x j
  | k, row :: t => row.Pairwise (fun a b => lt a b = true) ∧ row ≠ [] ∧ (∀ x, x ∈ row ↔ P x k) ∧ RowsOK lt P (k + 1) t

theorem RowsOK.congr {lt : α → α → Bool} {P P' : α → Nat → Prop} : ∀ {t : List (List α)} {k : Nat}, (∀ x j, k ≤ j → (P x j ↔ P' x j)) → RowsOK lt P k t → RowsOK lt P' k t
  | [], k, h, r => fun x j hj hp => r x j hj ((h x j hj).mpr hp)
  | row :: t, k, h, r => ⟨r.1, r.2.1, fun x => (r.2.2.1 x).trans (h x k (Nat.le_refl _)), RowsOK.congr (fun x j hj => h x j (Nat.le_of_succ_le hj)) r.2.2.2⟩

theorem insert_chain {lt : α → α → Bool} (O : Strict lt) {P P' : α → Nat → Prop} {W : Nat → α → Prop}
    (hW : ∀ k w, W k w → ¬ P w k ∧
      (((∀ z, P z k → lt w z = false) ∧ (∀ x j, k ≤ j → (P' x j ↔ (P x j ∨ (x = w ∧ j = k))))) ∨
       ∃ y, P y k ∧ lt w y = true ∧ (∀ z, P z k → lt w z = true → z = y ∨ lt y z = true) ∧ W (k + 1) y ∧ (∀ x, P' x k ↔ ((P x k ∧ x ≠ y) ∨ x = w)))) :
    ∀ (t : List (List α)) (k : Nat) (w : α), W k w → RowsOK lt P k t → RowsOK lt P' k (tabIns lt w t)
  | [], k, w, hw, r => by
    obtain ⟨_, h | ⟨y, hy, _⟩⟩ := hW k w hw
    · refine ⟨List.pairwise_singleton _ _, by simp, fun x => ?_, fun x j hj hp => ?_⟩
      · rw [h.2 x k (Nat.le_refl _)]
        constructor
        · intro hx; exact .inr ⟨List.mem_singleton.mp hx, rfl⟩
        · rintro (hx | ⟨hx, _⟩)
          · exact (r x k (Nat.le_refl _) hx).elim
          · exact List.mem_singleton.mpr hx
      · rcases (h.2 x j (Nat.le_of_succ_le hj)).mp hp with hx | ⟨_, e⟩
        · exact r x j (Nat.le_of_succ_le hj) hx
        · omega
    · exact (r y k (Nat.le_refl _) hy).elim
  | row :: t, k, w, hw, r => by
    obtain ⟨hn, h | ⟨y, hy, hwy, hfirst, hW', hP'⟩⟩ := hW k w hw
    · obtain ⟨r1, r2, r3, r4⟩ := r
      have hlt : ∀ z ∈ row, lt w z = false := fun z hz => h.1 z ((r3 z).mp hz)
      have hwr : w ∉ row := fun hm => hn ((r3 w).mp hm)
      rw [tabIns_none hlt]
      refine ⟨?_, by simp, fun x => ?_, ?_⟩
      · rw [List.pairwise_append]
        refine ⟨r1, List.pairwise_singleton _ _, fun a ha b hb => ?_⟩
        rw [List.mem_singleton.mp hb]
        exact O.gt_of (hlt a ha) (fun e => hwr (e ▸ ha))
      · rw [h.2 x k (Nat.le_refl _), List.mem_append, List.mem_singleton, r3 x]
        simp
      · refine RowsOK.congr (fun x j hj => ?_) r4
        rw [h.2 x j (Nat.le_of_succ_le hj)]
        constructor
        · exact .inl
        · rintro (hx | ⟨_, e⟩)
          · exact hx
          · omega
    · obtain ⟨r1, r2, r3, r4⟩ := r
      have hyr : y ∈ row := (r3 y).mpr hy
      have hwr : w ∉ row := fun hm => hn ((r3 w).mp hm)
      obtain ⟨u, v, rfl⟩ := List.append_of_mem hyr
      rw [List.pairwise_append] at r1
      obtain ⟨p1, p2, p3⟩ := r1
      rw [List.pairwise_cons] at p2
      have hu : ∀ z ∈ u, lt w z = false := fun z hz => by
        cases e : lt w z with
        | false => rfl
        | true =>
          have hzy := p3 z hz y List.mem_cons_self
          rcases hfirst z ((r3 z).mp (List.mem_append_left _ hz)) e with q | q
          · exact (O.ne hzy q).elim
          · exact (O.asymm hzy q).elim
      rw [tabIns_some hu hwy]
      refine ⟨?_, by simp, fun x => ?_, insert_chain O hW t (k + 1) y hW' r4⟩
      · rw [List.pairwise_append, List.pairwise_cons]
        refine ⟨p1, ⟨fun z hz => O.trans _ _ _ hwy (p2.1 z hz), p2.2⟩, fun a ha b hb => ?_⟩
        rcases List.mem_cons.mp hb with rfl | hb
        · exact O.gt_of (hu a ha) (fun e => hwr (e ▸ List.mem_append_left _ ha))
        · exact p3 a ha b (List.mem_cons_of_mem _ hb)
      · rw [hP' x, ← r3 x]
        simp only [List.mem_append, List.mem_cons]
        constructor
        · rintro (hx | rfl | hx)
          · exact .inl ⟨.inl hx, O.ne (p3 x hx y List.mem_cons_self)⟩
          · exact .inr rfl
          · exact .inl ⟨.inr (.inr hx), fun e => by subst e; exact (O.ne (p2.1 _ hx)) rfl⟩
        · rintro (⟨hx | rfl | hx, hne⟩ | rfl)
          · exact .inl hx
          · exact (hne rfl).elim
          · exact .inr (.inr hx)
          · exact .inr (.inl rfl)
end tab

section first
variable {α : Type}

/-- y lies below x: ahead of it in the first order, behind it in the second -/
def RR (lt1 lt2 : α → α → Bool) (y x : α) : Prop := lt1 y x = true ∧ lt2 x y = true

structure Orders (lt1 lt2 : α → α → Bool) (names : List α) : Prop where
  o1 : Strict lt1
  o2 : Strict lt2
  av : ∀ y z x, y ∈ names → z ∈ names → x ∈ names → lt1 y z = true → lt1 z x = true → lt2 x y = true → lt2 y z = true → False

variable {lt1 lt2 : α → α → Bool} {names : List α}

theorem RR.trans (O : Orders lt1 lt2 names) {a b c : α} (h : RR lt1 lt2 a b) (h' : RR lt1 lt2 b c) : RR lt1 lt2 a c :=
  ⟨O.o1.trans _ _ _ h.1 h'.1, O.o2.trans _ _ _ h'.2 h.2⟩

structure IsHeight (lt1 lt2 : α → α → Bool) (S : List α) (f : α → Nat) : Prop where
  pos : ∀ y ∈ S, 1 ≤ f y
  above : ∀ y ∈ S, ∀ z ∈ S, RR lt1 lt2 y z → f z < f y
  wit : ∀ y ∈ S, f y = 1 ∨ ∃ z ∈ S, RR lt1 lt2 y z ∧ f z + 1 = f y

theorem IsHeight.le {S : List α} {f g : α → Nat} (hf : IsHeight lt1 lt2 S f) (hg : IsHeight lt1 lt2 S g) : ∀ n, ∀ y ∈ S, f y = n → f y ≤ g y := by
  intro n
  induction n using Nat.strongRecOn with
  | ind n ih =>
    intro y hy e
    rcases hf.wit y hy with h | ⟨z, hz, hr, h⟩
    · rw [h]; exact hg.pos y hy
    · have h1 := ih (f z) (by omega) z hz rfl
      have h2 := hg.above y hy z hz hr
      omega

theorem IsHeight.unique {S : List α} {f g : α → Nat} (hf : IsHeight lt1 lt2 S f) (hg : IsHeight lt1 lt2 S g) : ∀ y ∈ S, f y = g y := fun y hy =>
  Nat.le_antisymm (hf.le hg _ y hy rfl) (hg.le hf _ y hy rfl)

inductive Ch (lt1 lt2 : α → α → Bool) (S : List α) (f : α → Nat) (x : α) : Nat → α → Prop
  | zero : Ch lt1 lt2 S f x 0 x
  | succ {k : Nat} {w y : α} : Ch lt1 lt2 S f x k w → y ∈ S → f y = k + 1 → RR lt1 lt2 y w → Ch lt1 lt2 S f x (k + 1) y

section step
variable {S : List α} {f : α → Nat} {x : α}

theorem Ch.mem (hx : x ∈ names) (hS : ∀ y ∈ S, y ∈ names) : ∀ {k : Nat} {w : α}, Ch lt1 lt2 S f x k w → w ∈ names
  | _, _, .zero => hx
  | _, _, .succ _ h _ _ => hS _ h

theorem Ch.low (O : Orders lt1 lt2 names) : ∀ {k : Nat} {w : α}, Ch lt1 lt2 S f x k w → (k = 0 ∧ w = x) ∨ (1 ≤ k ∧ w ∈ S ∧ f w = k ∧ RR lt1 lt2 w x)
  | _, _, .zero => .inl ⟨rfl, rfl⟩
  | _, _, .succ (k := k) c h e r => by
    refine .inr ⟨by omega, h, e, ?_⟩
    rcases Ch.low O c with ⟨_, rfl⟩ | ⟨_, _, _, r'⟩
    · exact r
    · exact RR.trans O r r'

/-- two of one level that lie below one: the same -/
theorem level_one (O : Orders lt1 lt2 names) (hS : ∀ y ∈ S, y ∈ names) (H : IsHeight lt1 lt2 S f) {w y y' : α} (hw : w ∈ names) (hy : y ∈ S) (hy' : y' ∈ S)
    (e : f y = f y') (r : RR lt1 lt2 y w) (r' : RR lt1 lt2 y' w) : y = y' := by
  apply Classical.byContradiction
  intro hne
  have key : ∀ a b, a ∈ S → b ∈ S → f a = f b → RR lt1 lt2 a w → RR lt1 lt2 b w → lt2 a b = true → a ≠ b → False := by
    intro a b ha hb e ra rb h2 hab
    rcases O.o1.tri a b hab with h1 | h1
    · exact O.av a b w (hS a ha) (hS b hb) hw h1 rb.1 ra.2 h2
    · have := H.above b hb a ha ⟨h1, h2⟩
      omega
  rcases O.o2.tri y y' hne with h | h
  · exact key y y' hy hy' e r r' h hne
  · exact key y' y hy' hy e.symm r' r h (Ne.symm hne)

theorem Ch.unique (O : Orders lt1 lt2 names) (hS : ∀ y ∈ S, y ∈ names) (hx : x ∈ names) (H : IsHeight lt1 lt2 S f) :
    ∀ {k : Nat} {w w' : α}, Ch lt1 lt2 S f x k w → Ch lt1 lt2 S f x k w' → w = w'
  | 0, _, _, .zero, .zero => rfl
  | k + 1, _, _, .succ c h e r, .succ c' h' e' r' => by
    have := Ch.unique O hS hx H c c'
    subst this
    exact level_one O hS H (Ch.mem hx hS c) h h' (e.trans e'.symm) r r'

/-- one of level k that is greater in the second order than the one pending lies below it -/
theorem Ch.under (O : Orders lt1 lt2 names) (hS : ∀ y ∈ S, y ∈ names) (hx : x ∈ names) (hlast : ∀ y ∈ S, lt1 y x = true) {k : Nat} {w y : α}
    (c : Ch lt1 lt2 S f x k w) (hy : y ∈ S) (hne : y ≠ w) (h : lt2 w y = true) : RR lt1 lt2 y w := by
  refine ⟨?_, h⟩
  rcases Ch.low O c with ⟨_, rfl⟩ | ⟨_, hwS, _, r⟩
  · exact hlast y hy
  · rcases O.o1.tri y w hne with h1 | h1
    · exact h1
    · exact (O.av w y x (hS w hwS) (hS y hy) hx h1 (hlast y hy) r.2 h).elim

theorem Ch.pass {k j : Nat} {w : α} (c : Ch lt1 lt2 S f x j w) (h : k ≤ j) : ∃ w', Ch lt1 lt2 S f x k w' := by
  induction c with
  | zero => exact ⟨x, by have : k = 0 := by omega
                         subst this; exact .zero⟩
  | succ c hy e r ih =>
    rename_i k' w' y'
    by_cases hk : k ≤ k'
    · exact ih hk
    · have : k = k' + 1 := by omega
      subst this; exact ⟨y', .succ c hy e r⟩

def NewP (lt1 lt2 : α → α → Bool) (S : List α) (f : α → Nat) (x : α) (y : α) (j : Nat) : Prop :=
  Ch lt1 lt2 S f x j y ∨ (y ∈ S ∧ f y = j + 1 ∧ ¬ Ch lt1 lt2 S f x (j + 1) y)

theorem step_rows (O : Orders lt1 lt2 names) (hS : ∀ y ∈ S, y ∈ names) (hx : x ∈ names) (hxS : x ∉ S) (hlast : ∀ y ∈ S, lt1 y x = true) (H : IsHeight lt1 lt2 S f)
    {t : List (List α)} (r : RowsOK lt2 (fun y j => y ∈ S ∧ f y = j + 1) 0 t) : RowsOK lt2 (NewP lt1 lt2 S f x) 0 (tabIns lt2 x t) := by
  refine insert_chain (W := Ch lt1 lt2 S f x) O.o2 ?_ t 0 x .zero r
  intro k w c
  have hwk : ¬ (w ∈ S ∧ f w = k + 1) := by
    rintro ⟨h1, h2⟩
    rcases Ch.low O c with ⟨_, rfl⟩ | ⟨_, _, e, _⟩
    · exact hxS h1
    · omega
  refine ⟨hwk, ?_⟩
  by_cases hex : ∃ y, (y ∈ S ∧ f y = k + 1) ∧ lt2 w y = true
  · right
    obtain ⟨y, ⟨hy, e⟩, h⟩ := hex
    have ne : ∀ z, z ∈ S → f z = k + 1 → z ≠ w := fun z hz ez q => hwk ⟨q ▸ hz, q ▸ ez⟩
    have ry := Ch.under O hS hx hlast c hy (ne y hy e) h
    have cy : Ch lt1 lt2 S f x (k + 1) y := .succ c hy e ry
    refine ⟨y, ⟨hy, e⟩, h, fun z hz hwz => .inl ?_, cy, fun z => ?_⟩
    · exact level_one O hS H (Ch.mem hx hS c) hz.1 hy (hz.2.trans e.symm) (Ch.under O hS hx hlast c hz.1 (ne z hz.1 hz.2) hwz) ry
    · constructor
      · rintro (hc | ⟨h1, h2, h3⟩)
        · exact .inr (Ch.unique O hS hx H hc c)
        · exact .inl ⟨⟨h1, h2⟩, fun q => h3 (q ▸ cy)⟩
      · rintro (⟨⟨h1, h2⟩, h3⟩ | rfl)
        · exact .inr ⟨h1, h2, fun hc => h3 (Ch.unique O hS hx H hc cy)⟩
        · exact .inl c
  · left
    have hno : ∀ z, z ∈ S → f z = k + 1 → lt2 w z = false := fun z h1 h2 => by
      cases q : lt2 w z with
      | false => rfl
      | true => exact (hex ⟨z, ⟨h1, h2⟩, q⟩).elim
    have hstop : ∀ z, ¬ Ch lt1 lt2 S f x (k + 1) z := by
      intro z hc
      cases hc with
      | succ c' hz e r =>
        have := Ch.unique O hS hx H c' c
        subst this
        have := hno z hz e
        rw [r.2] at this; cases this
    refine ⟨fun z hz => hno z hz.1 hz.2, fun z j hj => ?_⟩
    constructor
    · rintro (hc | ⟨h1, h2, h3⟩)
      · by_cases hjk : j = k
        · subst hjk; exact .inr ⟨Ch.unique O hS hx H hc c, rfl⟩
        · obtain ⟨w', hc'⟩ := Ch.pass (k := k + 1) hc (by omega)
          exact (hstop w' hc').elim
      · exact .inl ⟨h1, h2⟩
    · rintro (⟨h1, h2⟩ | ⟨rfl, rfl⟩)
      · refine .inr ⟨h1, h2, fun hc => ?_⟩
        obtain ⟨w', hc'⟩ := Ch.pass (k := k + 1) hc (by omega)
        exact hstop w' hc'
      · exact .inl c

open Classical in
noncomputable def newF (lt1 lt2 : α → α → Bool) (S : List α) (f : α → Nat) (x : α) (y : α) : Nat :=
  if y = x then 1 else if Ch lt1 lt2 S f x (f y) y then f y + 1 else f y

theorem newF_x : newF lt1 lt2 S f x x = 1 := by simp [newF]
theorem newF_yes {y : α} (h : y ≠ x) (c : Ch lt1 lt2 S f x (f y) y) : newF lt1 lt2 S f x y = f y + 1 := by simp [newF, h, c]
theorem newF_no {y : α} (h : y ≠ x) (c : ¬ Ch lt1 lt2 S f x (f y) y) : newF lt1 lt2 S f x y = f y := by simp [newF, h, c]
theorem newF_le {y : α} (h : y ≠ x) : f y ≤ newF lt1 lt2 S f x y ∧ newF lt1 lt2 S f x y ≤ f y + 1 := by
  by_cases c : Ch lt1 lt2 S f x (f y) y
  · rw [newF_yes h c]; omega
  · rw [newF_no h c]; omega

theorem newP_iff (O : Orders lt1 lt2 names) (hxS : x ∉ S) (H : IsHeight lt1 lt2 S f) (y : α) (j : Nat) :
    NewP lt1 lt2 S f x y j ↔ (y ∈ S ++ [x] ∧ newF lt1 lt2 S f x y = j + 1) := by
  rw [List.mem_append, List.mem_singleton]
  constructor
  · rintro (hc | ⟨h1, h2, h3⟩)
    · rcases Ch.low O hc with ⟨rfl, rfl⟩ | ⟨h1, h2, h3, _⟩
      · exact ⟨.inr rfl, newF_x⟩
      · have hne : y ≠ x := fun q => hxS (q ▸ h2)
        rw [newF_yes hne (by rw [h3]; exact hc), h3]
        exact ⟨.inl h2, rfl⟩
    · have hne : y ≠ x := fun q => hxS (q ▸ h1)
      rw [newF_no hne (by rw [h2]; exact h3), h2]
      exact ⟨.inl h1, rfl⟩
  · rintro ⟨h1, h2⟩
    by_cases hyx : y = x
    · subst hyx
      rw [newF_x] at h2
      have : j = 0 := by omega
      subst this
      exact .inl .zero
    · have hy : y ∈ S := h1.resolve_right hyx
      have hp := H.pos y hy
      by_cases c : Ch lt1 lt2 S f x (f y) y
      · rw [newF_yes hyx c] at h2
        have : f y = j := by omega
        exact .inl (this ▸ c)
      · rw [newF_no hyx c] at h2
        exact .inr ⟨hy, h2, h2 ▸ c⟩

theorem step_height (O : Orders lt1 lt2 names) (hS : ∀ y ∈ S, y ∈ names) (hx : x ∈ names) (hxS : x ∉ S) (hlast : ∀ y ∈ S, lt1 y x = true) (H : IsHeight lt1 lt2 S f) :
    IsHeight lt1 lt2 (S ++ [x]) (newF lt1 lt2 S f x) := by
  have nex : ∀ y ∈ S, y ≠ x := fun y hy q => hxS (q ▸ hy)
  have split : ∀ y, y ∈ S ++ [x] → y ∈ S ∨ y = x := fun y hy => by simpa using hy
  have nox : ∀ z, z ∈ S ++ [x] → ¬ RR lt1 lt2 x z := fun z hz r => by
    rcases split z hz with h | rfl
    · exact O.o1.asymm r.1 (hlast z h)
    · exact O.o1.ne r.1 rfl
  refine ⟨fun y hy => ?_, fun y hy z hz r => ?_, fun y hy => ?_⟩
  · rcases split y hy with h | rfl
    · have := H.pos y h; have := (newF_le (lt1 := lt1) (lt2 := lt2) (S := S) (f := f) (nex y h)).1; omega
    · rw [newF_x]; omega
  · by_cases hyx : y = x
    · subst hyx; exact (nox z hz r).elim
    have h := (split y hy).resolve_right hyx
    rcases split z hz with hzS | rfl
    · have hzx := nex z hzS
      have hlt := H.above y h z hzS r
      by_cases cz : Ch lt1 lt2 S f x (f z) z
      · rw [newF_yes hzx cz]
        by_cases e : f y = f z + 1
        · have cy : Ch lt1 lt2 S f x (f y) y := by rw [e]; exact .succ cz h e r
          rw [newF_yes hyx cy]; omega
        · have := (newF_le (lt1 := lt1) (lt2 := lt2) (S := S) (f := f) hyx).1; omega
      · rw [newF_no hzx cz]
        have := (newF_le (lt1 := lt1) (lt2 := lt2) (S := S) (f := f) hyx).1; omega
    · rw [newF_x]
      have hp := H.pos y h
      by_cases e : f y = 1
      · have cy : Ch lt1 lt2 S f z (f y) y := by rw [e]; exact .succ .zero h e r
        rw [newF_yes hyx cy]; omega
      · have := (newF_le (lt1 := lt1) (lt2 := lt2) (S := S) (f := f) hyx).1; omega
  · by_cases hyx : y = x
    · subst hyx; exact .inl newF_x
    have h := (split y hy).resolve_right hyx
    by_cases cy : Ch lt1 lt2 S f x (f y) y
    · right
      rw [newF_yes hyx cy]
      have hp := H.pos y h
      obtain ⟨k, hk⟩ : ∃ k, f y = k + 1 := ⟨f y - 1, by omega⟩
      rw [hk] at cy
      cases cy with
      | succ c hyS e r =>
        rename_i w
        rcases Ch.low O c with ⟨h0, rfl⟩ | ⟨_, hw, hfw, _⟩
        · exact ⟨w, by simp, r, by rw [newF_x]; omega⟩
        · exact ⟨w, List.mem_append_left _ hw, r, by rw [newF_yes (nex w hw) (by rw [hfw]; exact c)]; omega⟩
    · rw [newF_no hyx cy]
      rcases H.wit y h with h1 | ⟨z, hz, r, e⟩
      · exact .inl h1
      · refine .inr ⟨z, List.mem_append_left _ hz, r, ?_⟩
        have cz : ¬ Ch lt1 lt2 S f x (f z) z := fun cz => cy (by rw [← e]; exact .succ cz h (by omega) r)
        rw [newF_no (nex z hz) cz, e]
end step

theorem first_table (O : Orders lt1 lt2 names) : ∀ (S : List α), (∀ y ∈ S, y ∈ names) → S.Pairwise (fun a b => lt1 a b = true) →
    ∃ f, IsHeight lt1 lt2 S f ∧ RowsOK lt2 (fun y j => y ∈ S ∧ f y = j + 1) 0 (S.foldl (fun t x => tabIns lt2 x t) []) := by
  intro S
  induction hn : S.length generalizing S with
  | zero =>
    intro _ _
    have : S = [] := List.length_eq_zero_iff.mp hn
    subst this
    exact ⟨fun _ => 0, ⟨fun _ h => (nomatch h), fun _ h => (nomatch h), fun _ h => (nomatch h)⟩, fun _ _ _ h => (nomatch h.1)⟩
  | succ n ih =>
    intro hS hp
    obtain ⟨S', x, rfl⟩ : ∃ S' x, S = S' ++ [x] := by
      have hne : S ≠ [] := by intro q; subst q; simp at hn
      exact ⟨S.dropLast, S.getLast hne, (List.dropLast_concat_getLast hne).symm⟩
    rw [List.pairwise_append] at hp
    obtain ⟨p1, _, p3⟩ := hp
    have hlen : S'.length = n := by simpa using hn
    obtain ⟨f, H, r⟩ := ih S' hlen (fun y hy => hS y (List.mem_append_left _ hy)) p1
    have hlast : ∀ y ∈ S', lt1 y x = true := fun y hy => p3 y hy x (by simp)
    have hxS : x ∉ S' := fun hm => O.o1.ne (hlast x hm) rfl
    have hx : x ∈ names := hS x (by simp)
    have hS' : ∀ y ∈ S', y ∈ names := fun y hy => hS y (List.mem_append_left _ hy)
    refine ⟨newF lt1 lt2 S' f x, step_height O hS' hx hxS hlast H, ?_⟩
    rw [List.foldl_append]
    exact RowsOK.congr (fun y j _ => newP_iff O hxS H y j) (step_rows O hS' hx hxS hlast H r)
end first
end Mine
end PartM1

section PartM2
set_option linter.unusedVariables false
namespace Mine
section second
variable {α : Type} [DecidableEq α] {lt1 lt2 : α → α → Bool} {names : List α}

def rB (lt1 lt2 : α → α → Bool) (y x : α) : Bool := lt1 y x && lt2 x y
theorem rB_iff {y x : α} : rB lt1 lt2 y x = true ↔ RR lt1 lt2 y x := by simp [rB, RR]

/-- on how many of S it stands -/
def dep (lt1 lt2 : α → α → Bool) (S : List α) (y : α) : Nat := S.countP (fun l => rB lt1 lt2 l y)
/-- an earlier one that stands on low as well, as deep as y or deeper -/
def blocked (lt1 lt2 : α → α → Bool) (S : List α) (y low : α) : Bool := S.any fun one => lt1 one y && (rB lt1 lt2 low one && decide (dep lt1 lt2 S y ≤ dep lt1 lt2 S one))
def free (lt1 lt2 : α → α → Bool) (S : List α) (y : α) : Nat := S.countP (fun low => rB lt1 lt2 low y && !blocked lt1 lt2 S y low)

theorem blocked_iff {S : List α} {y low : α} : blocked lt1 lt2 S y low = true ↔ ∃ one ∈ S, lt1 one y = true ∧ RR lt1 lt2 low one ∧ dep lt1 lt2 S y ≤ dep lt1 lt2 S one := by
  simp [blocked, rB_iff]

theorem free_le_dep {S : List α} (y : α) : free lt1 lt2 S y ≤ dep lt1 lt2 S y := by
  apply List.countP_mono_left
  intro l _ h
  simp only [Bool.and_eq_true] at h; exact h.1

theorem countP_lt {β : Type} {p q : β → Bool} {l : List β} {a : β} (ha : a ∈ l) (h : ∀ x ∈ l, p x = true → q x = true) (h1 : p a = false) (h2 : q a = true) : l.countP p < l.countP q := by
  induction l with
  | nil => exact nomatch ha
  | cons b l ih =>
    have hm : l.countP p ≤ l.countP q := List.countP_mono_left fun x hx => h x (List.mem_cons_of_mem _ hx)
    rw [List.countP_cons, List.countP_cons]
    rcases List.mem_cons.mp ha with rfl | ha
    · rw [h1, h2]; simp; omega
    · have := ih ha fun x hx => h x (List.mem_cons_of_mem _ hx)
      have hb := h b List.mem_cons_self
      cases e : p b with
      | false => simp; split <;> omega
      | true => rw [hb e]; simp; omega

theorem forest (O : Orders lt1 lt2 names) {p q a : α} (hp : p ∈ names) (hq : q ∈ names) (ha : a ∈ names) (h : RR lt1 lt2 p a) (h' : RR lt1 lt2 q a) : p = q ∨ RR lt1 lt2 p q ∨ RR lt1 lt2 q p := by
  by_cases e : p = q
  · exact .inl e
  right
  rcases O.o1.tri p q e with h1 | h1
  · rcases O.o2.tri p q e with h2 | h2
    · exact (O.av p q a hp hq ha h1 h'.1 h.2 h2).elim
    · exact .inl ⟨h1, h2⟩
  · rcases O.o2.tri p q e with h2 | h2
    · exact .inr ⟨h1, h2⟩
    · exact (O.av q p a hq hp ha h1 h.1 h'.2 h2).elim

theorem RR.irr (O : Orders lt1 lt2 names) {a : α} (h : RR lt1 lt2 a a) : False := O.o1.ne h.1 rfl

section inS
variable {S : List α}
theorem dep_lt (O : Orders lt1 lt2 names) {y z : α} (hy : y ∈ S) (h : RR lt1 lt2 y z) : dep lt1 lt2 S y < dep lt1 lt2 S z := by
  refine countP_lt hy (fun x _ hx => ?_) ?_ (rB_iff.mpr h)
  · exact rB_iff.mpr (RR.trans O (rB_iff.mp hx) h)
  · cases e : rB lt1 lt2 y y with
    | false => rfl
    | true => exact (RR.irr O (rB_iff.mp e)).elim

theorem exists_last (O : Strict lt1) : ∀ {l : List α}, l ≠ [] → ∃ a ∈ l, ∀ b ∈ l, b = a ∨ lt1 b a = true
  | [], h => (h rfl).elim
  | [a], _ => ⟨a, by simp, fun b hb => .inl (by simpa using hb)⟩
  | a :: b :: l, _ => by
    obtain ⟨c, hc, h⟩ := exists_last O (l := b :: l) (by simp)
    by_cases e : lt1 c a = true
    · refine ⟨a, by simp, fun d hd => ?_⟩
      rcases List.mem_cons.mp hd with rfl | hd
      · exact .inl rfl
      · rcases h d hd with rfl | q
        · exact .inr e
        · exact .inr (O.trans _ _ _ q e)
    · refine ⟨c, List.mem_cons_of_mem _ hc, fun d hd => ?_⟩
      rcases List.mem_cons.mp hd with rfl | hd
      · by_cases q : d = c
        · exact .inl q
        · exact .inr ((O.tri _ _ q).resolve_right e)
      · exact h d hd

theorem exists_first (O : Strict lt1) : ∀ {l : List α}, l ≠ [] → ∃ a ∈ l, ∀ b ∈ l, b = a ∨ lt1 a b = true
  | [], h => (h rfl).elim
  | [a], _ => ⟨a, by simp, fun b hb => .inl (by simpa using hb)⟩
  | a :: b :: l, _ => by
    obtain ⟨c, hc, h⟩ := exists_first O (l := b :: l) (by simp)
    by_cases e : lt1 a c = true
    · refine ⟨a, by simp, fun d hd => ?_⟩
      rcases List.mem_cons.mp hd with rfl | hd
      · exact .inl rfl
      · rcases h d hd with rfl | q
        · exact .inr e
        · exact .inr (O.trans _ _ _ e q)
    · refine ⟨c, List.mem_cons_of_mem _ hc, fun d hd => ?_⟩
      rcases List.mem_cons.mp hd with rfl | hd
      · by_cases q : d = c
        · exact .inl q
        · exact .inr ((O.tri _ _ (Ne.symm q)).resolve_right e)
      · exact h d hd

/-- one that stands on something stands on one of depth one less -/
theorem parent (O : Orders lt1 lt2 names) (hS : ∀ y ∈ S, y ∈ names) (hnd : S.Nodup) {a : α} (ha : a ∈ names) (h : 0 < dep lt1 lt2 S a) :
    ∃ p ∈ S, RR lt1 lt2 p a ∧ dep lt1 lt2 S p + 1 = dep lt1 lt2 S a := by
  have hne : S.filter (fun l => rB lt1 lt2 l a) ≠ [] := by
    intro e
    have : dep lt1 lt2 S a = 0 := by rw [dep, List.countP_eq_length_filter, e]; rfl
    omega
  obtain ⟨p, hp, hl⟩ := exists_last O.o1 hne
  rw [List.mem_filter] at hp
  obtain ⟨hpS, hpr⟩ := hp
  have hpr := rB_iff.mp hpr
  refine ⟨p, hpS, hpr, ?_⟩
  have e : ∀ l ∈ S, rB lt1 lt2 l a = (rB lt1 lt2 l p || decide (l = p)) := by
    intro l hlS
    rw [Bool.eq_iff_iff, Bool.or_eq_true, rB_iff, rB_iff, decide_eq_true_iff]
    constructor
    · intro hla
      rcases hl l (by rw [List.mem_filter]; exact ⟨hlS, rB_iff.mpr hla⟩) with q | q
      · exact .inr q
      · rcases forest O (hS l hlS) (hS p hpS) ha hla hpr with q' | q' | q'
        · exact .inr q'
        · exact .inl q'
        · exact (O.o1.asymm q q'.1).elim
    · rintro (q | rfl)
      · exact RR.trans O q hpr
      · exact hpr
  have h1 : dep lt1 lt2 S a = S.countP (fun l => rB lt1 lt2 l p || decide (l = p)) := List.countP_congr fun l hlS => by rw [e l hlS]
  have h2 : ∀ (T : List α), T.Nodup → p ∈ T → T.countP (fun l => rB lt1 lt2 l p || decide (l = p)) = T.countP (fun l => rB lt1 lt2 l p) + 1 := by
    have hpp : rB lt1 lt2 p p = false := by
      cases q : rB lt1 lt2 p p with
      | false => rfl
      | true => exact (RR.irr O (rB_iff.mp q)).elim
    intro T
    induction T with
    | nil => intro _ hm; exact nomatch hm
    | cons b T ih =>
      intro hd hm
      rw [List.nodup_cons] at hd
      rw [List.countP_cons, List.countP_cons]
      by_cases q : b = p
      · subst q
        have : T.countP (fun l => rB lt1 lt2 l b || decide (l = b)) = T.countP (fun l => rB lt1 lt2 l b) := List.countP_congr fun l hlT => by
          have : l ≠ b := fun q => hd.1 (q ▸ hlT)
          simp [this]
        rw [this]; simp [hpp]
      · have hm' : p ∈ T := (List.mem_cons.mp hm).resolve_left (Ne.symm q)
        rw [ih hd.2 hm']
        simp [q]; omega
  rw [h1, h2 S hnd hpS]; rfl

/-- a record: deeper than all earlier ones over x -/
def Rec (lt1 lt2 : α → α → Bool) (S : List α) (x y : α) : Prop :=
  y ∈ S ∧ RR lt1 lt2 x y ∧ ∀ one ∈ S, RR lt1 lt2 x one → lt1 one y = true → dep lt1 lt2 S one < dep lt1 lt2 S y

section step2
variable {x : α}

theorem low_in (O : Orders lt1 lt2 names) (hS : ∀ y ∈ S, y ∈ names) (hx : x ∈ names) (hxS : x ∉ S) (hlast : ∀ y ∈ S, lt2 y x = true) {low y : α} (hl : low ∈ S) (hy : y ∈ S)
    (hxy : RR lt1 lt2 x y) (h : RR lt1 lt2 low y) : RR lt1 lt2 x low := by
  rcases forest O (hS low hl) hx (hS y hy) h hxy with q | q | q
  · exact (hxS (q ▸ hl)).elim
  · exact (O.o2.asymm q.2 (hlast low hl)).elim
  · exact q

/-- a record is counted on each that it stands on -/
theorem rec_free (O : Orders lt1 lt2 names) (hS : ∀ y ∈ S, y ∈ names) (hx : x ∈ names) (hxS : x ∉ S) (hlast : ∀ y ∈ S, lt2 y x = true) {y : α} (h : Rec lt1 lt2 S x y) : free lt1 lt2 S y = dep lt1 lt2 S y := by
  obtain ⟨hy, hxy, hr⟩ := h
  apply List.countP_congr
  intro low hl
  rw [Bool.and_eq_true, Bool.not_eq_true']
  constructor
  · exact fun q => q.1
  · intro q
    refine ⟨q, ?_⟩
    cases e : blocked lt1 lt2 S y low with
    | false => rfl
    | true =>
      obtain ⟨one, ho, h1, h2, h3⟩ := blocked_iff.mp e
      have hxl := low_in O hS hx hxS hlast hl hy hxy (rB_iff.mp q)
      have := hr one ho (RR.trans O hxl h2) h1
      omega

theorem rec_eq (O : Orders lt1 lt2 names) {y y' : α} (h : Rec lt1 lt2 S x y) (h' : Rec lt1 lt2 S x y') (e : dep lt1 lt2 S y = dep lt1 lt2 S y') : y = y' := by
  apply Classical.byContradiction
  intro hne
  rcases O.o1.tri y y' hne with q | q
  · have := h'.2.2 y h.1 h.2.1 q; omega
  · have := h.2.2 y' h'.1 h'.2.1 q; omega

/-- where one over x is as deep as k, the first such is a record of depth k -/
theorem rec_at (O : Orders lt1 lt2 names) (hS : ∀ y ∈ S, y ∈ names) (hnd : S.Nodup) (hx : x ∈ names) (hxS : x ∉ S) (hlast : ∀ y ∈ S, lt2 y x = true) {z : α} {k : Nat} (hz : z ∈ S) (hxz : RR lt1 lt2 x z) (hk : k ≤ dep lt1 lt2 S z) :
    ∃ y, Rec lt1 lt2 S x y ∧ dep lt1 lt2 S y = k := by
  have hne : S.filter (fun l => rB lt1 lt2 x l && decide (k ≤ dep lt1 lt2 S l)) ≠ [] := by
    intro e
    have : z ∈ S.filter (fun l => rB lt1 lt2 x l && decide (k ≤ dep lt1 lt2 S l)) := by
      rw [List.mem_filter]; exact ⟨hz, by simp [rB_iff, hxz, hk]⟩
    rw [e] at this; exact nomatch this
  obtain ⟨a, ha, hf⟩ := exists_first O.o1 hne
  simp only [List.mem_filter, Bool.and_eq_true, rB_iff, decide_eq_true_iff] at ha hf
  obtain ⟨haS, hxa, hka⟩ := ha
  have hmin : ∀ b ∈ S, RR lt1 lt2 x b → lt1 b a = true → dep lt1 lt2 S b < k := by
    intro b hb hxb hba
    apply Classical.byContradiction
    intro hc
    rcases hf b ⟨hb, hxb, by omega⟩ with q | q
    · subst q; exact O.o1.ne hba rfl
    · exact O.o1.asymm q hba
  refine ⟨a, ⟨haS, hxa, fun one ho hxo h1 => by have := hmin one ho hxo h1; omega⟩, ?_⟩
  apply Classical.byContradiction
  intro hc
  obtain ⟨p, hp, hpa, hd⟩ := parent O hS hnd (hS a haS) (by omega)
  have := hmin p hp (low_in O hS hx hxS hlast hp haS hxa hpa) hpa.1
  omega

def W2 (lt1 lt2 : α → α → Bool) (S : List α) (x : α) (k : Nat) (w : α) : Prop := (k = 0 ∧ w = x) ∨ (Rec lt1 lt2 S x w ∧ dep lt1 lt2 S w + 1 = k)
def NewQ (lt1 lt2 : α → α → Bool) (S : List α) (x y : α) (j : Nat) : Prop :=
  W2 lt1 lt2 S x j y ∨ (y ∈ S ∧ free lt1 lt2 S y = j ∧ ¬ Rec lt1 lt2 S x y)

theorem W2.uniq (O : Orders lt1 lt2 names) {k : Nat} {w w' : α} (h : W2 lt1 lt2 S x k w) (h' : W2 lt1 lt2 S x k w') : w = w' := by
  rcases h with ⟨h1, h2⟩ | ⟨h1, h2⟩ <;> rcases h' with ⟨h3, h4⟩ | ⟨h3, h4⟩
  · rw [h2, h4]
  · omega
  · omega
  · exact rec_eq O h1 h3 (by omega)

theorem step_rows2 (O : Orders lt1 lt2 names) (hS : ∀ y ∈ S, y ∈ names) (hnd : S.Nodup) (hx : x ∈ names) (hxS : x ∉ S) (hlast : ∀ y ∈ S, lt2 y x = true)
    {t : List (List α)} (r : RowsOK lt1 (fun y j => y ∈ S ∧ free lt1 lt2 S y = j) 0 t) : RowsOK lt1 (NewQ lt1 lt2 S x) 0 (tabIns lt1 x t) := by
  refine insert_chain (W := W2 lt1 lt2 S x) O.o1 ?_ t 0 x (.inl ⟨rfl, rfl⟩) r
  intro k w c
  have recf : ∀ {y}, Rec lt1 lt2 S x y → free lt1 lt2 S y = dep lt1 lt2 S y := fun h => rec_free O hS hx hxS hlast h
  have hwk : ¬ (w ∈ S ∧ free lt1 lt2 S w = k) := by
    rintro ⟨h1, h2⟩
    rcases c with ⟨_, rfl⟩ | ⟨hr, e⟩
    · exact hxS h1
    · have := recf hr; omega
  -- what lies behind w in row k lies over x
  have over : ∀ z, z ∈ S → lt1 w z = true → RR lt1 lt2 x z := by
    intro z hz h
    refine ⟨?_, hlast z hz⟩
    rcases c with ⟨_, rfl⟩ | ⟨hr, _⟩
    · exact h
    · exact O.o1.trans _ _ _ hr.2.1.1 h
  refine ⟨hwk, ?_⟩
  by_cases hex : ∃ y, Rec lt1 lt2 S x y ∧ dep lt1 lt2 S y = k
  · right
    obtain ⟨y, hr, e⟩ := hex
    have hwy : lt1 w y = true := by
      rcases c with ⟨_, rfl⟩ | ⟨hrw, ew⟩
      · exact hr.2.1.1
      · have hne : w ≠ y := by intro q; subst q; omega
        rcases O.o1.tri w y hne with q | q
        · exact q
        · have := hrw.2.2 y hr.1 hr.2.1 q; omega
    have cy : W2 lt1 lt2 S x (k + 1) y := .inr ⟨hr, by omega⟩
    refine ⟨y, ⟨hr.1, (recf hr).trans e⟩, hwy, fun z hz hwz => ?_, cy, fun z => ?_⟩
    · have hxz := over z hz.1 hwz
      by_cases q : z = y
      · exact .inl q
      right
      rcases O.o1.tri z y q with q' | q'
      · have h1 := hr.2.2 z hz.1 hxz q'
        have h2 := free_le_dep (lt1 := lt1) (lt2 := lt2) (S := S) z
        omega
      · exact q'
    · constructor
      · rintro (hc | ⟨h1, h2, h3⟩)
        · exact .inr (W2.uniq O hc c)
        · exact .inl ⟨⟨h1, h2⟩, fun q => h3 (q ▸ hr)⟩
      · rintro (⟨⟨h1, h2⟩, h3⟩ | rfl)
        · refine .inr ⟨h1, h2, fun hc => h3 (rec_eq O hc hr ?_)⟩
          have := recf hc; omega
        · exact .inl c
  · left
    have hno : ∀ z, z ∈ S → RR lt1 lt2 x z → ¬ k ≤ dep lt1 lt2 S z := fun z hz hxz hk => hex (rec_at O hS hnd hx hxS hlast hz hxz hk)
    refine ⟨fun z hz => ?_, fun z j hj => ?_⟩
    · cases q : lt1 w z with
      | false => rfl
      | true =>
        have h2 := free_le_dep (lt1 := lt1) (lt2 := lt2) (S := S) z
        exact (hno z hz.1 (over z hz.1 q) (by omega)).elim
    · constructor
      · rintro (hc | ⟨h1, h2, h3⟩)
        · rcases hc with ⟨h1, h2⟩ | ⟨h1, h2⟩
          · have : k = 0 := by omega
            subst this; subst h1
            exact .inr ⟨W2.uniq O (.inl ⟨rfl, h2⟩) c, rfl⟩
          · by_cases hjk : j = k
            · subst hjk; exact .inr ⟨W2.uniq O (.inr ⟨h1, h2⟩) c, rfl⟩
            · exact (hno z h1.1 h1.2.1 (by omega)).elim
        · exact .inl ⟨h1, h2⟩
      · rintro (⟨h1, h2⟩ | ⟨rfl, rfl⟩)
        · refine .inr ⟨h1, h2, fun hc => ?_⟩
          have := recf hc
          exact hno z h1 hc.2.1 (by omega)
        · exact .inl c

theorem dep_snoc (y : α) : dep lt1 lt2 (S ++ [x]) y = dep lt1 lt2 S y + (if rB lt1 lt2 x y then 1 else 0) := by
  simp [dep, List.countP_append, List.countP_cons]

theorem dep_x (O : Orders lt1 lt2 names) (hlast : ∀ y ∈ S, lt2 y x = true) : dep lt1 lt2 (S ++ [x]) x = 0 := by
  rw [dep, List.countP_eq_zero]
  intro y hy h
  have h := (rB_iff.mp h)
  rcases List.mem_append.mp hy with q | q
  · exact O.o2.asymm h.2 (hlast y q)
  · rw [List.mem_singleton.mp q] at h; exact RR.irr O h

theorem not_low_x (O : Orders lt1 lt2 names) (hlast : ∀ y ∈ S, lt2 y x = true) {low : α} (hl : low ∈ S) : rB lt1 lt2 low x = false := by
  cases e : rB lt1 lt2 low x with
  | false => rfl
  | true => exact (O.o2.asymm (rB_iff.mp e).2 (hlast low hl)).elim

theorem free_x (O : Orders lt1 lt2 names) (hlast : ∀ y ∈ S, lt2 y x = true) : free lt1 lt2 (S ++ [x]) x = 0 := by
  have := free_le_dep (lt1 := lt1) (lt2 := lt2) (S := S ++ [x]) x
  have := dep_x O hlast
  omega

theorem free_snoc (O : Orders lt1 lt2 names) (hS : ∀ y ∈ S, y ∈ names) (hx : x ∈ names) (hxS : x ∉ S) (hlast : ∀ y ∈ S, lt2 y x = true) {y : α} (hy : y ∈ S) :
    (Rec lt1 lt2 S x y → free lt1 lt2 (S ++ [x]) y = free lt1 lt2 S y + 1) ∧ (¬ Rec lt1 lt2 S x y → free lt1 lt2 (S ++ [x]) y = free lt1 lt2 S y) := by
  -- an earlier one that blocks, before and after
  have dleU : ∀ {one}, one ∈ S → RR lt1 lt2 x y → RR lt1 lt2 x one → (dep lt1 lt2 (S ++ [x]) y ≤ dep lt1 lt2 (S ++ [x]) one ↔ dep lt1 lt2 S y ≤ dep lt1 lt2 S one) := by
    intro one _ h1 h2
    rw [dep_snoc, dep_snoc, rB_iff.mpr h1, rB_iff.mpr h2]; simp
  have blk : ∀ low ∈ S, RR lt1 lt2 low y → blocked lt1 lt2 (S ++ [x]) y low = blocked lt1 lt2 S y low := by
    intro low hl hly
    rw [Bool.eq_iff_iff, blocked_iff, blocked_iff]
    have same : ∀ one ∈ S, RR lt1 lt2 low one → (dep lt1 lt2 (S ++ [x]) y ≤ dep lt1 lt2 (S ++ [x]) one ↔ dep lt1 lt2 S y ≤ dep lt1 lt2 S one) := by
      intro one ho hlo
      by_cases hxl : RR lt1 lt2 x low
      · exact dleU ho (RR.trans O hxl hly) (RR.trans O hxl hlo)
      · have h1 : rB lt1 lt2 x y = false := by
          cases e : rB lt1 lt2 x y with
          | false => rfl
          | true => exact (hxl (low_in O hS hx hxS hlast hl hy (rB_iff.mp e) hly)).elim
        have h2 : rB lt1 lt2 x one = false := by
          cases e : rB lt1 lt2 x one with
          | false => rfl
          | true => exact (hxl (low_in O hS hx hxS hlast hl ho (rB_iff.mp e) hlo)).elim
        rw [dep_snoc, dep_snoc, h1, h2]; simp
    constructor
    · rintro ⟨one, ho, h1, h2, h3⟩
      rcases List.mem_append.mp ho with q | q
      · exact ⟨one, q, h1, h2, (same one q h2).mp h3⟩
      · rw [List.mem_singleton.mp q] at h2
        rw [← rB_iff, not_low_x O hlast hl] at h2; cases h2
    · rintro ⟨one, ho, h1, h2, h3⟩
      exact ⟨one, List.mem_append_left _ ho, h1, h2, (same one ho h2).mpr h3⟩
  have base : S.countP (fun low => rB lt1 lt2 low y && !blocked lt1 lt2 (S ++ [x]) y low) = free lt1 lt2 S y := by
    apply List.countP_congr
    intro low hl
    cases e : rB lt1 lt2 low y with
    | false => simp
    | true => rw [blk low hl (rB_iff.mp e)]
  have hfree : free lt1 lt2 (S ++ [x]) y = free lt1 lt2 S y + (if (rB lt1 lt2 x y && !blocked lt1 lt2 (S ++ [x]) y x) = true then 1 else 0) := by
    rw [← base, free, List.countP_append, List.countP_singleton]
  have hrec : (rB lt1 lt2 x y && !blocked lt1 lt2 (S ++ [x]) y x) = true ↔ Rec lt1 lt2 S x y := by
    rw [Bool.and_eq_true, Bool.not_eq_true', rB_iff]
    constructor
    · rintro ⟨h1, h2⟩
      refine ⟨hy, h1, fun one ho hxo hlt => ?_⟩
      apply Classical.byContradiction
      intro hc
      have : blocked lt1 lt2 (S ++ [x]) y x = true := blocked_iff.mpr ⟨one, List.mem_append_left _ ho, hlt, hxo, (dleU ho h1 hxo).mpr (by omega)⟩
      rw [h2] at this; cases this
    · rintro ⟨_, h1, h2⟩
      refine ⟨h1, ?_⟩
      cases e : blocked lt1 lt2 (S ++ [x]) y x with
      | false => rfl
      | true =>
        obtain ⟨one, ho, hlt, hxo, hd⟩ := blocked_iff.mp e
        rcases List.mem_append.mp ho with q | q
        · have := h2 one q hxo hlt
          have := (dleU q h1 hxo).mp hd
          omega
        · rw [List.mem_singleton.mp q] at hxo; exact (RR.irr O hxo).elim
  constructor
  · intro h; rw [hfree, if_pos (hrec.mpr h)]
  · intro h; rw [hfree, if_neg (fun q => h (hrec.mp q))]; rfl

theorem newQ_iff (O : Orders lt1 lt2 names) (hS : ∀ y ∈ S, y ∈ names) (hx : x ∈ names) (hxS : x ∉ S) (hlast : ∀ y ∈ S, lt2 y x = true) (y : α) (j : Nat) :
    NewQ lt1 lt2 S x y j ↔ (y ∈ S ++ [x] ∧ free lt1 lt2 (S ++ [x]) y = j) := by
  rw [List.mem_append, List.mem_singleton]
  constructor
  · rintro ((⟨rfl, rfl⟩ | ⟨h1, h2⟩) | ⟨h1, h2, h3⟩)
    · exact ⟨.inr rfl, free_x O hlast⟩
    · refine ⟨.inl h1.1, ?_⟩
      rw [(free_snoc O hS hx hxS hlast h1.1).1 h1, rec_free O hS hx hxS hlast h1]; exact h2
    · exact ⟨.inl h1, by rw [(free_snoc O hS hx hxS hlast h1).2 h3]; exact h2⟩
  · rintro ⟨h1, h2⟩
    by_cases hyx : y = x
    · subst hyx
      rw [free_x O hlast] at h2
      exact .inl (.inl ⟨h2.symm, rfl⟩)
    · have hy := h1.resolve_right hyx
      by_cases c : Rec lt1 lt2 S x y
      · rw [(free_snoc O hS hx hxS hlast hy).1 c, rec_free O hS hx hxS hlast c] at h2
        exact .inl (.inr ⟨c, h2⟩)
      · rw [(free_snoc O hS hx hxS hlast hy).2 c] at h2
        exact .inr ⟨hy, h2, c⟩
end step2
end inS

theorem second_table (O : Orders lt1 lt2 names) : ∀ (S : List α), (∀ y ∈ S, y ∈ names) → S.Pairwise (fun a b => lt2 a b = true) →
    RowsOK lt1 (fun y j => y ∈ S ∧ free lt1 lt2 S y = j) 0 (S.foldl (fun t x => tabIns lt1 x t) []) := by
  intro S
  induction hn : S.length generalizing S with
  | zero =>
    intro _ _
    have : S = [] := List.length_eq_zero_iff.mp hn
    subst this
    exact fun _ _ _ h => (nomatch h.1)
  | succ n ih =>
    intro hS hp
    obtain ⟨S', x, rfl⟩ : ∃ S' x, S = S' ++ [x] := by
      have hne : S ≠ [] := by intro q; subst q; simp at hn
      exact ⟨S.dropLast, S.getLast hne, (List.dropLast_concat_getLast hne).symm⟩
    have hpp := hp
    rw [List.pairwise_append] at hp
    obtain ⟨p1, _, p3⟩ := hp
    have hlen : S'.length = n := by simpa using hn
    have hS' : ∀ y ∈ S', y ∈ names := fun y hy => hS y (List.mem_append_left _ hy)
    have r := ih S' hlen hS' p1
    have hlast : ∀ y ∈ S', lt2 y x = true := fun y hy => p3 y hy x (by simp)
    have hxS : x ∉ S' := fun hm => O.o2.ne (hlast x hm) rfl
    have hx : x ∈ names := hS x (by simp)
    have hnd : S'.Nodup := p1.imp fun h => O.o2.ne h
    rw [List.foldl_append]
    exact RowsOK.congr (fun y j _ => newQ_iff O hS' hx hxS hlast y j) (step_rows2 O hS' hnd hx hxS hlast r)
end second
end Mine
end PartM2

section PartM3
set_option linter.unusedVariables false
set_option linter.unusedSectionVars false
namespace Mine
section
variable {α : Type} [DecidableEq α] {lt1 lt2 : α → α → Bool} {names : List α}

theorem rows_lt {lt : α → α → Bool} {P : α → Nat → Prop} : ∀ {t : List (List α)} {k : Nat}, RowsOK lt P k t → ∀ x j, P x j → k ≤ j → j < k + t.length
  | [], k, r, x, j, h, hj => (r x j hj h).elim
  | row :: t, k, r, x, j, h, hj => by
    rw [List.length_cons]
    by_cases e : j = k
    · omega
    · have := rows_lt r.2.2.2 x j h (by omega)
      omega
theorem rows_ex {lt : α → α → Bool} {P : α → Nat → Prop} : ∀ {t : List (List α)} {k : Nat}, RowsOK lt P k t → ∀ j, k ≤ j → j < k + t.length → ∃ x, P x j
  | [], k, r, j, hj, h => by simp at h; omega
  | row :: t, k, r, j, hj, h => by
    by_cases e : j = k
    · subst e
      obtain ⟨x, hx⟩ := List.exists_mem_of_ne_nil _ r.2.1
      exact ⟨x, (r.2.2.1 x).mp hx⟩
    · exact rows_ex r.2.2.2 j (by omega) (by rw [List.length_cons] at h; omega)
theorem rows_get {lt : α → α → Bool} {P : α → Nat → Prop} : ∀ {t : List (List α)} {k : Nat}, RowsOK lt P k t → ∀ (j : Nat) (h : j < t.length), t[j].Pairwise (fun a b => lt a b = true) ∧ ∀ x, x ∈ t[j] ↔ P x (k + j)
  | [], k, r, j, h => (by simp at h)
  | row :: t, k, r, 0, h => ⟨r.1, fun x => r.2.2.1 x⟩
  | row :: t, k, r, j + 1, h => by
    have := rows_get r.2.2.2 j (by simpa using h)
    simp only [List.getElem_cons_succ]
    rw [show k + (j + 1) = k + 1 + j by omega]
    exact this

theorem up_chain (O : Orders lt1 lt2 names) {f : α → Nat} (H : IsHeight lt1 lt2 names f) : ∀ n, ∀ y ∈ names, f y = n → ∃ u ∈ names, f y ≤ dep lt1 lt2 names u + 1 ∧ dep lt1 lt2 names y + f y ≤ dep lt1 lt2 names u + 1 := by
  intro n
  induction n with
  | zero => intro y hy e; have := H.pos y hy; omega
  | succ n ih =>
    intro y hy e
    rcases H.wit y hy with h | ⟨z, hz, hr, h⟩
    · exact ⟨y, hy, by omega, by omega⟩
    · obtain ⟨u, hu, h1, h2⟩ := ih z hz (by omega)
      have := dep_lt O hy hr
      exact ⟨u, hu, by omega, by omega⟩

theorem down_chain (O : Orders lt1 lt2 names) (hnd : names.Nodup) {f : α → Nat} (H : IsHeight lt1 lt2 names f) : ∀ n, ∀ y ∈ names, dep lt1 lt2 names y = n → ∃ z ∈ names, dep lt1 lt2 names y + f y ≤ f z := by
  intro n
  induction n with
  | zero => intro y hy e; exact ⟨y, hy, by omega⟩
  | succ n ih =>
    intro y hy e
    obtain ⟨p, hp, hr, hd⟩ := parent O (fun _ h => h) hnd hy (by omega)
    obtain ⟨z, hz, h⟩ := ih p hp (by omega)
    have := H.above p hp y hy hr
    exact ⟨z, hz, by omega⟩

theorem free_top (O : Orders lt1 lt2 names) {u : α} (hu : u ∈ names) {D : Nat} (h : D ≤ dep lt1 lt2 names u) : ∃ y ∈ names, D ≤ free lt1 lt2 names y := by
  have hne : names.filter (fun l => decide (D ≤ dep lt1 lt2 names l)) ≠ [] := by
    intro e
    have : u ∈ names.filter (fun l => decide (D ≤ dep lt1 lt2 names l)) := by
      rw [List.mem_filter]; exact ⟨hu, by simp [h]⟩
    rw [e] at this; exact nomatch this
  obtain ⟨a, ha, hf⟩ := exists_first O.o1 hne
  simp only [List.mem_filter, decide_eq_true_iff] at ha hf
  refine ⟨a, ha.1, ?_⟩
  have : free lt1 lt2 names a = dep lt1 lt2 names a := by
    apply List.countP_congr
    intro low hl
    rw [Bool.and_eq_true, Bool.not_eq_true']
    constructor
    · exact fun q => q.1
    · intro q
      refine ⟨q, ?_⟩
      cases e : blocked lt1 lt2 names a low with
      | false => rfl
      | true =>
        obtain ⟨one, ho, h1, h2, h3⟩ := blocked_iff.mp e
        rcases hf one ⟨ho, by omega⟩ with q | q
        · subst q; exact (O.o1.ne h1 rfl).elim
        · exact (O.o1.asymm q h1).elim
  omega

theorem dep_perm {S T : List α} (p : S.Perm T) (y : α) : dep lt1 lt2 S y = dep lt1 lt2 T y := p.countP_eq _
theorem any_perm {β : Type} {p : β → Bool} {S T : List β} (h : S.Perm T) : S.any p = T.any p := by
  rw [Bool.eq_iff_iff, List.any_eq_true, List.any_eq_true]
  constructor
  · rintro ⟨x, hx, hp⟩; exact ⟨x, h.mem_iff.mp hx, hp⟩
  · rintro ⟨x, hx, hp⟩; exact ⟨x, h.mem_iff.mpr hx, hp⟩
theorem free_perm {S T : List α} (p : S.Perm T) (y : α) : free lt1 lt2 S y = free lt1 lt2 T y := by
  have e : ∀ low, blocked lt1 lt2 S y low = blocked lt1 lt2 T y low := fun low => by
    unfold blocked
    rw [any_perm p]
    simp only [dep_perm p]
  unfold free
  rw [p.countP_eq]
  simp only [e]

/-- both tables: their rows' members and their number -/
theorem tables (O : Orders lt1 lt2 names) (hnd : names.Nodup) {A B : List α} (pA : A.Perm names) (pB : B.Perm names) (hA : A.Pairwise (fun a b => lt1 a b = true)) (hB : B.Pairwise (fun a b => lt2 a b = true))
    {H : α → Nat} (hH : IsHeight lt1 lt2 names H) :
    RowsOK lt2 (fun y j => y ∈ names ∧ H y = j + 1) 0 (A.foldl (fun t x => tabIns lt2 x t) []) ∧
    RowsOK lt1 (fun y j => y ∈ names ∧ free lt1 lt2 names y = j) 0 (B.foldl (fun t x => tabIns lt1 x t) []) ∧
    (A.foldl (fun t x => tabIns lt2 x t) []).length = (B.foldl (fun t x => tabIns lt1 x t) []).length := by
  obtain ⟨f, hf, r1⟩ := first_table O A (fun y hy => pA.mem_iff.mp hy) hA
  have r2 := second_table O B (fun y hy => pB.mem_iff.mp hy) hB
  have hf' : IsHeight lt1 lt2 names f := ⟨fun y hy => hf.pos y (pA.mem_iff.mpr hy), fun y hy z hz => hf.above y (pA.mem_iff.mpr hy) z (pA.mem_iff.mpr hz), fun y hy => by
    rcases hf.wit y (pA.mem_iff.mpr hy) with h | ⟨z, hz, h⟩
    · exact .inl h
    · exact .inr ⟨z, pA.mem_iff.mp hz, h⟩⟩
  have ef := hf'.unique hH
  have r1' : RowsOK lt2 (fun y j => y ∈ names ∧ H y = j + 1) 0 (A.foldl (fun t x => tabIns lt2 x t) []) := RowsOK.congr (fun y j _ => by
    constructor
    · rintro ⟨h1, h2⟩; have h := pA.mem_iff.mp h1; exact ⟨h, by rw [← ef y h]; exact h2⟩
    · rintro ⟨h1, h2⟩; exact ⟨pA.mem_iff.mpr h1, by rw [ef y h1]; exact h2⟩) r1
  have r2' : RowsOK lt1 (fun y j => y ∈ names ∧ free lt1 lt2 names y = j) 0 (B.foldl (fun t x => tabIns lt1 x t) []) := RowsOK.congr (fun y j _ => by
    rw [pB.mem_iff, free_perm pB]) r2
  refine ⟨r1', r2', ?_⟩
  have b1 : ∀ y ∈ names, H y ≤ (A.foldl (fun t x => tabIns lt2 x t) []).length := fun y hy => by
    have hp := hH.pos y hy
    have := rows_lt r1' y (H y - 1) ⟨hy, by omega⟩ (Nat.zero_le _)
    omega
  have b2 : ∀ y ∈ names, free lt1 lt2 names y < (B.foldl (fun t x => tabIns lt1 x t) []).length := fun y hy => by
    have := rows_lt r2' y _ ⟨hy, rfl⟩ (Nat.zero_le _)
    omega
  apply Nat.le_antisymm
  · by_cases e : (A.foldl (fun t x => tabIns lt2 x t) []).length = 0
    · omega
    · obtain ⟨y, hy, h⟩ := rows_ex r1' ((A.foldl (fun t x => tabIns lt2 x t) []).length - 1) (Nat.zero_le _) (by omega)
      obtain ⟨u, hu, h1, _⟩ := up_chain O hH _ y hy rfl
      obtain ⟨z, hz, hzf⟩ := free_top O hu (D := H y - 1) (by omega)
      have := b2 z hz
      omega
  · by_cases e : (B.foldl (fun t x => tabIns lt1 x t) []).length = 0
    · omega
    · obtain ⟨y, hy, h⟩ := rows_ex r2' ((B.foldl (fun t x => tabIns lt1 x t) []).length - 1) (Nat.zero_le _) (by omega)
      obtain ⟨z, hz, h1⟩ := down_chain O hnd hH _ y hy rfl
      have := b1 z hz
      have := hH.pos y hy
      have := free_le_dep (lt1 := lt1) (lt2 := lt2) (S := names) y
      omega

/-- two lists in one strict order with the same members are one -/
theorem sorted_uniq {lt : α → α → Bool} (O : Strict lt) : ∀ {l l' : List α}, l.Pairwise (fun a b => lt a b = true) → l'.Pairwise (fun a b => lt a b = true) → (∀ x, x ∈ l ↔ x ∈ l') → l = l'
  | [], [], _, _, _ => rfl
  | [], b :: l', _, _, h => by have := (h b).mpr (by simp); exact nomatch this
  | a :: l, [], _, _, h => by have := (h a).mp (by simp); exact nomatch this
  | a :: l, b :: l', h1, h2, h => by
    rw [List.pairwise_cons] at h1 h2
    have e : a = b := by
      rcases List.mem_cons.mp ((h a).mp (by simp)) with q | q
      · exact q
      · rcases List.mem_cons.mp ((h b).mpr (by simp)) with q' | q'
        · exact q'.symm
        · exact (O.asymm (h1.1 b q') (h2.1 a q)).elim
    subst e
    congr 1
    refine sorted_uniq O h1.2 h2.2 fun x => ?_
    constructor
    · intro hx
      rcases List.mem_cons.mp ((h x).mp (List.mem_cons_of_mem _ hx)) with q | q
      · subst q; exact (O.ne (h1.1 _ hx) rfl).elim
      · exact q
    · intro hx
      rcases List.mem_cons.mp ((h x).mpr (List.mem_cons_of_mem _ hx)) with q | q
      · subst q; exact (O.ne (h2.1 _ hx) rfl).elim
      · exact q
end
end Mine
end PartM3

section PartM4
set_option linter.unusedVariables false
set_option linter.unusedSectionVars false
namespace Mine
open PySem

def sLt (a b : Str) : Bool := decide (a.cps.toList < b.cps.toList)
/-- the text of the QName of a name -/
def br (a : Str) : Str := ⟨(123 :: (a.cps.toList ++ [125, 110])).toArray⟩
def bLt (a b : Str) : Bool := sLt (br a) (br b)
theorem br_list (a : Str) : (br a).cps.toList = 123 :: (a.cps.toList ++ [125, 110]) := by simp [br]

theorem str_ext {a b : Str} (h : a.cps.toList = b.cps.toList) : a = b := by
  cases a; cases b; simp at h; simp; exact h

theorem lcons {a b : Nat} {l l' : List Nat} : a :: l < b :: l' ↔ a < b ∨ (a = b ∧ l < l') := List.cons_lt_cons_iff

theorem lt_tri : ∀ (l l' : List Nat), l ≠ l' → l < l' ∨ l' < l
  | [], [], h => (h rfl).elim
  | [], _ :: _, _ => .inl (List.nil_lt_cons _ _)
  | _ :: _, [], _ => .inr (List.nil_lt_cons _ _)
  | a :: l, b :: l', h => by
    rw [lcons, lcons]
    by_cases e : a = b
    · subst e
      have hne : l ≠ l' := fun q => h (by rw [q])
      rcases lt_tri l l' hne with q | q
      · exact .inl (.inr ⟨rfl, q⟩)
      · exact .inr (.inr ⟨rfl, q⟩)
    · rcases Nat.lt_or_gt_of_ne e with q | q
      · exact .inl (.inl q)
      · exact .inr (.inl q)

theorem lt_irr (l : List Nat) : ¬ l < l := List.lt_irrefl l
theorem lt_tr {a b c : List Nat} (h : a < b) (h' : b < c) : a < c := List.lt_trans h h'

theorem sLt_strict : Strict sLt := by
  refine ⟨fun a => ?_, fun a b c h h' => ?_, fun a b h => ?_⟩
  · simp only [sLt, decide_eq_false_iff_not]; exact lt_irr _
  · simp only [sLt, decide_eq_true_iff] at h h' ⊢; exact lt_tr h h'
  · simp only [sLt, decide_eq_true_iff]
    exact lt_tri _ _ fun q => h (str_ext q)

theorem br_inj {a b : Str} (h : br a = br b) : a = b := by
  apply str_ext
  have : (br a).cps.toList = (br b).cps.toList := by rw [h]
  rw [br_list, br_list] at this
  simpa using this

theorem bLt_strict : Strict bLt :=
  ⟨fun a => sLt_strict.irr _, fun a b c => sLt_strict.trans _ _ _, fun a b h => sLt_strict.tri _ _ fun q => h (br_inj q)⟩

/-- y stands below x: x begins with y, a sign below 125 behind it -/
def Stands (y x : List Nat) : Prop := ∃ c r, x = y ++ c :: r ∧ c < 125

theorem stands_iff : ∀ (y x : List Nat), 125 ∉ y → 125 ∉ x → ((y < x ∧ x ++ [125, 110] < y ++ [125, 110]) ↔ Stands y x)
  | [], [], _, _ => by
    constructor
    · rintro ⟨h, _⟩; exact (lt_irr _ h).elim
    · rintro ⟨c, r, h, _⟩; simp at h
  | [], c :: r, _, hx => by
    have hc : c ≠ 125 := fun q => hx (by simp [q])
    rw [List.nil_append, List.cons_append, lcons]
    constructor
    · rintro ⟨_, h | ⟨h, _⟩⟩
      · exact ⟨c, r, by simp, h⟩
      · exact (hc h).elim
    · rintro ⟨c', r', h, h'⟩
      simp at h
      exact ⟨List.nil_lt_cons _ _, .inl (by omega)⟩
  | a :: y, [], _, _ => by
    constructor
    · rintro ⟨h, _⟩; exact (List.not_lt_nil _ h).elim
    · rintro ⟨c, r, h, _⟩; simp at h
  | a :: y, b :: x, hy, hx => by
    have ih := stands_iff y x (fun h => hy (List.mem_cons_of_mem _ h)) (fun h => hx (List.mem_cons_of_mem _ h))
    rw [List.cons_append, List.cons_append, lcons, lcons]
    constructor
    · rintro ⟨h1 | ⟨rfl, h1⟩, h2 | ⟨h3, h2⟩⟩
      · omega
      · omega
      · omega
      · obtain ⟨c, r, e, hc⟩ := ih.mp ⟨h1, h2⟩
        exact ⟨c, r, by rw [e]; rfl, hc⟩
    · rintro ⟨c, r, h, hc⟩
      rw [List.cons_append, List.cons.injEq] at h
      obtain ⟨rfl, h⟩ := h
      have := ih.mpr ⟨c, r, h, hc⟩
      exact ⟨.inr ⟨rfl, this.1⟩, .inr ⟨rfl, this.2⟩⟩

theorem between : ∀ (y z t : List Nat), y < z → z < y ++ t → ∃ c r, z = y ++ c :: r ∧ c :: r < t
  | [], [], t, h, _ => (lt_irr _ h).elim
  | [], c :: r, t, _, h => ⟨c, r, rfl, h⟩
  | a :: y, [], t, h, _ => (List.not_lt_nil _ h).elim
  | a :: y, b :: z, t, h, h' => by
    rw [List.cons_append] at h'
    rw [lcons] at h h'
    have e : a = b := by omega
    subst e
    have h1 := h.resolve_left (Nat.lt_irrefl _)
    have h2 := h'.resolve_left (Nat.lt_irrefl _)
    obtain ⟨c, r, e, hc⟩ := between y z t h1.2 h2.2
    exact ⟨c, r, by rw [e]; rfl, hc⟩

def NoBrace (a : Str) : Prop := 125 ∉ a.cps.toList

theorem rr_iff {y x : Str} (hy : NoBrace y) (hx : NoBrace x) : RR sLt bLt y x ↔ Stands y.cps.toList x.cps.toList := by
  rw [← stands_iff _ _ hy hx]
  simp only [RR, sLt, bLt, decide_eq_true_iff, br_list, lcons, Nat.lt_irrefl, false_or, true_and]

theorem str_orders {names : List Str} (h : ∀ a ∈ names, NoBrace a) : Orders sLt bLt names := by
  refine ⟨sLt_strict, bLt_strict, fun y z x hy hz hx h1 h2 h3 h4 => ?_⟩
  have hyx : RR sLt bLt y x := ⟨sLt_strict.trans _ _ _ h1 h2, h3⟩
  obtain ⟨c, r, e, hc⟩ := (rr_iff (h y hy) (h x hx)).mp hyx
  simp only [sLt, decide_eq_true_iff] at h1 h2
  rw [e] at h2
  obtain ⟨c', r', e', hlt⟩ := between _ _ _ h1 h2
  rw [lcons] at hlt
  have : RR sLt bLt y z := (rr_iff (h y hy) (h z hz)).mpr ⟨c', r', e', by omega⟩
  exact bLt_strict.asymm this.2 h4
end Mine
end PartM4

section PartM5
set_option linter.unusedVariables false
set_option linter.unusedSectionVars false
namespace Mine
open PySem PyProof.Rows

theorem str_len (x : Str) : x.cps.toList.length = x.length := by simp [Str.length]
theorem slice_is {x y : Str} : (Txt.slice x none (some (y.length : Int)) == y) = true ↔ ∃ r, x.cps.toList = y.cps.toList ++ r := by
  have hy := str_len y
  have hx := str_len x
  rw [beq_iff_eq]
  by_cases h : y.length ≤ x.length
  · have e := slice_closes_to (x := x) (j := (y.length : Int)) ⟨by omega, by omega⟩
    rw [beq_iff_eq] at e
    rw [e]
    have e2 : ((x.cps.toList.drop (0 : Int).toNat).take ((y.length : Int) - 0).toNat) = x.cps.toList.take y.length := by simp
    rw [e2]
    constructor
    · intro q
      refine ⟨x.cps.toList.drop y.length, ?_⟩
      have : y.cps.toList = x.cps.toList.take y.length := (congrArg (fun z : Str => z.cps.toList) q).symm
      rw [this, List.take_append_drop]
    · rintro ⟨r, q⟩
      apply str_ext
      show x.cps.toList.take y.length = y.cps.toList
      rw [q, ← hy, List.take_left]
  · constructor
    · intro q
      have h2 := slice_ns_cases x (y.length : Int) (by omega)
      have h3 : (Txt.slice x none (some (y.length : Int))).length ≤ x.length := Txt.slice_le _ _ _
      rw [q] at h3
      omega
    · rintro ⟨r, q⟩
      have : x.cps.toList.length = y.cps.toList.length + r.length := by rw [q, List.length_append]
      omega

theorem low_same {x y : Str} (h : (y != x) = false) : rB sLt bLt y x = false := by
  have : y = x := by simpa using h
  subst this
  simp [rB, sLt_strict.irr]
theorem low_no {x y : Str} (hx : NoBrace x) (hy : NoBrace y) (h : (Txt.slice x none (some (y.length : Int)) == y) = false) : rB sLt bLt y x = false := by
  cases e : rB sLt bLt y x with
  | false => rfl
  | true =>
    obtain ⟨c, r, q, _⟩ := (rr_iff hy hx).mp (rB_iff.mp e)
    rw [slice_is.mpr ⟨_, q⟩] at h
    cases h
theorem low_yes {x y : Str} (hx : NoBrace x) (hy : NoBrace y) (hne : (y != x) = true) (h : (Txt.slice x none (some (y.length : Int)) == y) = true) :
    y.length < x.length ∧ rB sLt bLt y x = sLt (Txt.item x (y.length : Int)) ⟨#[125]⟩ := by
  obtain ⟨r, q⟩ := slice_is.mp h
  have hne' : y ≠ x := by simpa using hne
  cases r with
  | nil => exact (hne' (str_ext (by rw [q, List.append_nil]))).elim
  | cons c r =>
    have hl : x.cps.toList.length = y.cps.toList.length + (r.length + 1) := by rw [q, List.length_append, List.length_cons]
    rw [str_len, str_len] at hl
    have hlt : y.length < x.length := by omega
    refine ⟨hlt, ?_⟩
    have hc : x.cps[y.length]? = some c := by
      rw [← Array.getElem?_toList, q, List.getElem?_append_right (by rw [str_len]; exact Nat.le_refl _), str_len, Nat.sub_self]; rfl
    have hi : Txt.item x (y.length : Int) = ⟨#[c]⟩ := by
      have : Txt.charAt x (y.length : Int) = some c := by
        unfold Txt.charAt
        have : seqIndex? (y.length : Int) x.length = some y.length := by
          unfold seqIndex?
          simp
          omega
        rw [this]; exact hc
      unfold Txt.item; rw [this]; rfl
    rw [hi]
    rw [Bool.eq_iff_iff, rB_iff, rr_iff hy hx]
    simp only [sLt, decide_eq_true_iff]
    constructor
    · rintro ⟨c', r', q', hlt⟩
      rw [q] at q'
      have := List.append_cancel_left q'
      rw [List.cons.injEq] at this
      rw [lcons]; left; omega
    · intro hh
      refine ⟨c, r, q, ?_⟩
      have hh' : [c] < [125] := hh
      rw [lcons] at hh'
      rcases hh' with a | ⟨_, a⟩
      · exact a
      · exact (List.not_lt_nil _ a).elim
end Mine
end PartM5

section PartM6
set_option linter.unusedVariables false
set_option linter.unusedSectionVars false
namespace Mine
open PySem PyProof.Rows PySem.Spec

theorem ltCps_sLt (a b : Str) : ltCps a.cps.toList b.cps.toList = sLt a b := ltCps_eq _ _
theorem le_tr {a b c : Str} (h : sLt b a = false) (h' : sLt c b = false) : sLt c a = false := by
  cases e : sLt c a with
  | false => rfl
  | true =>
    by_cases q : b = a
    · subst q; rw [h'] at e; cases e
    · have h1 := sLt_strict.gt_of h (Ne.symm q)
      rw [sLt_strict.trans _ _ _ e h1] at h'
      cases h'
theorem rising_pair : ∀ (p : Str) (l : List Str), risingS p l = true → (∀ b ∈ l, sLt b p = false) ∧ l.Pairwise (fun a b => sLt b a = false)
  | p, [], _ => ⟨fun b hb => (nomatch hb), List.Pairwise.nil⟩
  | p, x :: l, h => by
    unfold risingS at h
    simp only [Bool.and_eq_true, Bool.not_eq_true'] at h
    rw [ltCps_sLt] at h
    obtain ⟨h1, h2⟩ := h
    obtain ⟨a, b⟩ := rising_pair x l h2
    refine ⟨fun b' hb => ?_, List.pairwise_cons.mpr ⟨a, b⟩⟩
    rcases List.mem_cons.mp hb with rfl | hb
    · exact h1
    · exact le_tr h1 (a _ hb)
theorem sorted_pair {l : List Str} (h : sortedS l = true) : l.Pairwise (fun a b => sLt b a = false) := by
  cases l with
  | nil => exact List.Pairwise.nil
  | cons x l => obtain ⟨a, b⟩ := rising_pair x l h; exact List.pairwise_cons.mpr ⟨a, b⟩
theorem sorted_strict {l : List Str} (h : sortedS l = true) (hn : l.Nodup) : l.Pairwise (fun a b => sLt a b = true) :=
  (List.Pairwise.and (sorted_pair h) hn).imp fun {a b} hab => sLt_strict.gt_of hab.1 hab.2

/-- what stands ahead in the sorted list is what is smaller -/
theorem blocked_take {ss ss4 : List Str} {i : Nat} {x : Str} (hp : ss4.Perm ss) (hs : ss4.Pairwise (fun a b => sLt a b = true)) (hx : ss4[i]? = some x) (q : Str → Bool) :
    ((ss4.take i).filter q).isEmpty = !(ss.any fun one => sLt one x && q one) := by
  obtain ⟨hi, e⟩ := List.getElem?_eq_some_iff.mp hx
  rw [Bool.eq_iff_iff, List.isEmpty_iff, Bool.not_eq_true']
  constructor
  · intro h
    rw [← Bool.not_eq_true, List.any_eq_true]
    rintro ⟨one, ho, hq⟩
    simp only [Bool.and_eq_true] at hq
    obtain ⟨j, hj, e2⟩ := List.getElem_of_mem (hp.mem_iff.mpr ho)
    have hji : j < i := by
      rcases Nat.lt_trichotomy j i with a | a | a
      · exact a
      · subst a
        rw [← e, e2] at hq
        rw [sLt_strict.irr] at hq; exact absurd hq.1 Bool.false_ne_true
      · have := List.pairwise_iff_getElem.mp hs i j hi hj a
        rw [e, e2] at this
        exact (sLt_strict.asymm this hq.1).elim
    have hm : one ∈ (ss4.take i).filter q := List.mem_filter.mpr ⟨List.mem_take_iff_getElem.mpr ⟨j, by omega, e2⟩, hq.2⟩
    rw [h] at hm
    exact nomatch hm
  · intro h
    rw [List.filter_eq_nil_iff]
    intro one ho hq
    obtain ⟨j, hj, e2⟩ := List.mem_take_iff_getElem.mp ho
    rw [← Bool.not_eq_true, List.any_eq_true] at h
    refine h ⟨one, hp.mem_iff.mp (List.mem_of_mem_take ho), ?_⟩
    have := List.pairwise_iff_getElem.mp hs j i (by omega) hi (by omega)
    rw [e2, e] at this
    simp only [Bool.and_eq_true]
    exact ⟨this, hq⟩
theorem free_count (ss : List Str) (x : Str) : (ss.filter fun low => rB sLt bLt low x).countP (fun low => !blocked sLt bLt ss x low) = free sLt bLt ss x := by
  unfold free
  rw [List.countP_filter]
  congr 1
  funext low
  rw [Bool.and_comm]
theorem free_lt {ss : List Str} {H : Str → Nat} {x y0 : Str} (hb : ∀ y ∈ ss, NoBrace y) (hn : ss.Nodup) (h : IsHeight sLt bLt ss H) (hx : x ∈ ss) (hm : ∀ y ∈ ss, H y ≤ H y0) : free sLt bLt ss x < H y0 := by
  obtain ⟨z, hz, h1⟩ := down_chain (str_orders hb) hn h _ x hx rfl
  have h2 := hm z hz
  have h3 := h.pos x hx
  have h4 : free sLt bLt ss x ≤ dep sLt bLt ss x := free_le_dep x
  omega
end Mine
end PartM6

section PartM7
set_option linter.unusedVariables false
set_option linter.unusedSectionVars false
namespace Mine
open PySem PyProof.Rows PySem.Spec
section
variable {α β : Type}
theorem tabIns_map {f : α → β} {lt : β → β → Bool} : ∀ (t : List (List α)) (z : α), (tabIns (fun a b => lt (f a) (f b)) z t).map (·.map f) = tabIns lt (f z) (t.map (·.map f))
  | [], z => rfl
  | row :: t, z => by
    rw [List.map_cons]
    unfold tabIns
    rw [List.find?_map]
    cases e : row.find? (fun y => lt (f z) (f y)) with
    | none =>
      have : row.find? ((fun y => lt (f z) y) ∘ f) = none := e
      rw [this]; simp
    | some y =>
      have : row.find? ((fun y => lt (f z) y) ∘ f) = some y := e
      rw [this]
      simp only [Option.map_some, List.map_cons, List.map_set]
      rw [tabIns_map t y, List.findIdx_map]
      rfl
theorem fold_map {f : α → β} {lt : β → β → Bool} : ∀ (l : List α) (t : List (List α)), (l.foldl (fun t x => tabIns (fun a b => lt (f a) (f b)) x t) t).map (·.map f) = (l.map f).foldl (fun t x => tabIns lt x t) (t.map (·.map f))
  | [], t => rfl
  | x :: l, t => by rw [List.foldl_cons, List.map_cons, List.foldl_cons, fold_map l, tabIns_map]
theorem tabIns_perm {lt : α → α → Bool} : ∀ (t : List (List α)) (x : α), (tabIns lt x t).flatten.Perm (x :: t.flatten)
  | [], x => by simp [tabIns]
  | row :: t, x => by
    cases e : row.find? (fun y => lt x y) with
    | none =>
      have : tabIns lt x (row :: t) = (row ++ [x]) :: t := by simp [tabIns, e]
      rw [this, List.flatten_cons, List.flatten_cons, List.append_assoc]
      exact List.perm_middle
    | some y =>
      obtain ⟨hy, u, v, rfl, hu⟩ := List.find?_eq_some_iff_append.mp e
      rw [tabIns_some (fun z hz => by have := hu z hz; simpa using this) hy, List.flatten_cons, List.flatten_cons]
      have ih := tabIns_perm (lt := lt) t y
      refine ((List.Perm.refl _).append ih).trans ?_
      have h1 : (u ++ x :: (v ++ y :: t.flatten)).Perm (x :: (u ++ (v ++ y :: t.flatten))) := List.perm_middle
      have h2 : (v ++ y :: t.flatten).Perm (y :: (v ++ t.flatten)) := List.perm_middle
      have h3 := h1.trans ((h2.append_left u).cons x)
      simpa using h3
end
end Mine
end PartM7

section PartM8
set_option linter.unusedVariables false
set_option linter.unusedSectionVars false
namespace Mine
open PySem PyProof.Rows PySem.Spec
section
variable {α : Type}
theorem tabIns_congr {lt lt' : α → α → Bool} : ∀ (t : List (List α)) (x : α), (∀ a b, a ≠ b → lt a b = lt' a b) → (x :: t.flatten).Nodup → tabIns lt x t = tabIns lt' x t
  | [], x, _, _ => rfl
  | row :: t, x, h, hn => by
    rw [List.flatten_cons] at hn
    have hx : ∀ y ∈ row, lt x y = lt' x y := fun y hy => h x y fun e => (List.nodup_cons.mp hn).1 (e ▸ List.mem_append_left _ hy)
    cases e : row.find? (fun y => lt x y) with
    | none =>
      rw [List.find?_eq_none] at e
      rw [tabIns_none (fun z hz => by simpa using e z hz), tabIns_none (fun z hz => by rw [← hx z hz]; simpa using e z hz)]
    | some y =>
      obtain ⟨hy, u, v, rfl, hu⟩ := List.find?_eq_some_iff_append.mp e
      have hn2 : (y :: t.flatten).Nodup := by
        have := (List.nodup_cons.mp hn).2
        rw [List.append_assoc, List.nodup_append] at this
        have h2 := this.2.1
        rw [List.cons_append, List.nodup_cons, List.nodup_append] at h2
        exact List.nodup_cons.mpr ⟨fun hm => h2.1 (List.mem_append_right _ hm), h2.2.2.1⟩
      rw [tabIns_some (fun z hz => by have := hu z hz; simpa using this) hy,
        tabIns_some (lt := lt') (fun z hz => by rw [← hx z (List.mem_append_left _ hz)]; have := hu z hz; simpa using this) (by rw [← hx y (by simp)]; exact hy), tabIns_congr t y h hn2]
theorem fold_congr {lt lt' : α → α → Bool} (h : ∀ a b, a ≠ b → lt a b = lt' a b) : ∀ (l : List α) (t : List (List α)), (l ++ t.flatten).Nodup → l.foldl (fun t x => tabIns lt x t) t = l.foldl (fun t x => tabIns lt' x t) t
  | [], t, _ => rfl
  | x :: l, t, hn => by
    have hn1 : (x :: t.flatten).Nodup := by
      rw [List.cons_append, List.nodup_cons, List.nodup_append] at hn
      exact List.nodup_cons.mpr ⟨fun hm => hn.1 (List.mem_append_right _ hm), hn.2.2.1⟩
    rw [List.foldl_cons, List.foldl_cons, tabIns_congr t x h hn1]
    refine fold_congr h l _ ?_
    have hp : (l ++ (tabIns lt' x t).flatten).Perm ((x :: l) ++ t.flatten) := ((tabIns_perm t x).append_left l).trans List.perm_middle
    exact hp.nodup_iff.mpr hn
end
end Mine
end PartM8

section PartU1
open PySem PySem.W PyProof.Rows PySem.Spec PySem.Calls
namespace Mine
/-- the posts stand as names while the body is walked -/
theorem wp_hold {M : Model} {A : Around} {α : Type} {t : Sem α} {Q : α → Shared → Prop} {E : Value → Shared → Prop} {s : Shared}
    (h : ∀ (R : α → Shared → Prop) (X : Value → Shared → Prop), (∀ v s', Q v s' → R v s') → wpAny M A t R X s) : wpAny M A t Q E s := h Q E fun _ _ h => h
theorem wp_letA {M : Model} {A : Around} {α : Type} {t : Sem α} {Q : α → Shared → Prop} {E : Value → Shared → Prop} {s : Shared}
    (h : let B := A; wpAny M B t Q E s) : wpAny M A t Q E s := h
theorem wp_holdE {M : Model} {A : Around} {α : Type} {t : Sem α} {Q : α → Shared → Prop} {E : Value → Shared → Prop} {s : Shared} {env : Env} (hE : PassesOwn M A env E)
    (h : ∀ (R : α → Shared → Prop) (X : Value → Shared → Prop), (∀ v s', Q v s' → R v s') → PassesOwn M A env X → wpAny M A t R X s) : wpAny M A t Q E s := h Q E (fun _ _ h => h) hE
section
variable {prog : Program} {w : World} {A : Around} {E : Value → Shared → Prop} {Q : Flow → Shared → Prop} {s : Shared} {env : Env} {h₀ : Heap} {L : Addr} {news : List (Addr × Obj)}

/-- the end of a turn of a bisection: lo and hi stand nearer -/
def WhGo (h₀ : Heap) (L : Addr) (s : Shared) (news : List (Addr × Obj)) (m₀ : Str → Option Value) (P : Int → Int → Prop) (lo hi : Int) (s₂ : Shared) : Prop :=
  ∃ lo' hi' t t' h' tk m', s₂ = { s with heap := h', toks := tk } ∧ Fr h₀ L h' m' ∧ News h₀ L h' news ∧ m' (Str.ofString "lo") = some (.int lo' t) ∧ m' (Str.ofString "hi") = some (.int hi' t') ∧
    (∀ z, z ≠ Str.ofString "lo" → z ≠ Str.ofString "hi" → z ≠ Str.ofString "mid" → m' z = m₀ z) ∧ P lo' hi' ∧ hi' - lo' < hi - lo ∧ 0 ≤ hi' - lo'
def WhEnd (h₀ : Heap) (L : Addr) (s : Shared) (news : List (Addr × Obj)) (m₀ : Str → Option Value) (P : Int → Int → Prop) (lo hi : Int) (Q : Flow → Shared → Prop) (f : Flow) (s₂ : Shared) : Prop :=
  match f with
  | .ret v => Q (.ret v) s₂
  | .brk => Q .next s₂
  | _ => WhGo h₀ L s news m₀ P lo hi s₂

theorem while_lohi {test : Expr} {body : List Stmt} {pos : Pos} {m₀ : Str → Option Value} (P : Int → Int → Prop) {lo₀ hi₀ : Int} {tl th : Tok}
    (F : Fr h₀ L s.heap m₀) (N : News h₀ L s.heap news) (hlo : m₀ (Str.ofString "lo") = some (.int lo₀ tl)) (hhi : m₀ (Str.ofString "hi") = some (.int hi₀ th)) (hp : P lo₀ hi₀)
    (turn : ∀ lo hi t t' (u : Option Value) h tk (R : Flow → Shared → Prop) (X : Value → Shared → Prop), (∀ f s', WhEnd h₀ L s news m₀ P lo hi Q f s' → R f s') → PassesOwn (model prog w) A env X → P lo hi → Fr h₀ L h (fun z => if z = Str.ofString "lo" then some (.int lo t) else if z = Str.ofString "hi" then some (.int hi t') else if z = Str.ofString "mid" then u else m₀ z) → News h₀ L h news →
      wpAny (model prog w) A (isTrue test env (eval test env)) (fun b s₂ =>
        if b = true then wpAny (model prog w) A (execs body env) R X s₂ else Q .next s₂) X { s with heap := h, toks := tk })
    (hE : PassesOwn (model prog w) A env E) :
    wpAny (model prog w) A (exec (.While test body [] pos) env) Q E s := by
  refine While_inv2 (fun n m₁ nx => nx = news ∧ ∃ lo hi t t', m₁ (Str.ofString "lo") = some (.int lo t) ∧ m₁ (Str.ofString "hi") = some (.int hi t') ∧
    (∀ z, z ≠ Str.ofString "lo" → z ≠ Str.ofString "hi" → z ≠ Str.ofString "mid" → m₁ z = m₀ z) ∧ P lo hi ∧ n = (hi - lo).toNat) (n₀ := (hi₀ - lo₀).toNat) F N ⟨rfl, lo₀, hi₀, tl, th, hlo, hhi, fun _ _ _ _ => rfl, hp, rfl⟩ ?_ hE
  rintro n m₁ news₁ h₁ tk₁ F₁ N₁ ⟨rfl, lo, hi, t, t', h1, h2, h3, h4, rfl⟩
  have em : (fun z => if z = Str.ofString "lo" then some (Value.int lo t) else if z = Str.ofString "hi" then some (Value.int hi t') else if z = Str.ofString "mid" then m₁ (Str.ofString "mid") else m₀ z) = m₁ := by
    funext z
    by_cases e1 : z = Str.ofString "lo"
    · rw [if_pos e1, e1, h1]
    · rw [if_neg e1]
      by_cases e2 : z = Str.ofString "hi"
      · rw [if_pos e2, e2, h2]
      · rw [if_neg e2]
        by_cases e3 : z = Str.ofString "mid"
        · rw [if_pos e3, e3]
        · rw [if_neg e3]; exact (h3 z e1 e2 e3).symm
  refine wpAny_mono (turn lo hi t t' (m₁ (Str.ofString "mid")) h₁ tk₁ _ E (fun _ _ h => h) hE h4 (em.symm ▸ F₁) N₁) (fun b s₂ p => ?_) fun _ _ x => x
  cases b with
  | false => simpa using p
  | true =>
    simp only [if_true] at p ⊢
    refine wpAny_mono p (fun f s₃ q => ?_) fun _ _ x => x
    have go : WhGo h₀ L s news₁ m₀ P lo hi s₃ → ∃ h' tk m₂ news₂ n', s₃ = { s with heap := h', toks := tk } ∧ Fr h₀ L h' m₂ ∧ News h₀ L h' news₂ ∧ n' < (hi - lo).toNat ∧ (news₂ = news₁ ∧ ∃ lo hi t t', m₂ (Str.ofString "lo") = some (.int lo t) ∧ m₂ (Str.ofString "hi") = some (.int hi t') ∧
        (∀ z, z ≠ Str.ofString "lo" → z ≠ Str.ofString "hi" → z ≠ Str.ofString "mid" → m₂ z = m₀ z) ∧ P lo hi ∧ n' = (hi - lo).toNat) := by
      rintro ⟨lo', hi', u, u', h', tk, m', rfl, F', N', a1, a2, a3, a4, a5, a6⟩
      exact ⟨h', tk, m', news₁, _, rfl, F', N', (by omega : (hi' - lo').toNat < (hi - lo).toNat), rfl, lo', hi', u, u', a1, a2, a3, a4, rfl⟩
    cases f with
    | ret v => exact q
    | brk => exact q
    | next => exact go q
    | cont => exact go q
end

structure Bis (q : Nat → Bool) (n : Nat) (lo hi : Int) : Prop where
  h0 : 0 ≤ lo
  h1 : lo ≤ hi
  h2 : hi ≤ n
  lower : ∀ i : Nat, (i : Int) < lo → q i = true
  upper : ∀ i : Nat, hi ≤ (i : Int) → i < n → q i = false
theorem Bis.start {q : Nat → Bool} {n : Nat} {lo hi : Int} (e : lo = 0) (e' : hi = n) : Bis q n lo hi := ⟨by omega, by omega, by omega, fun i hi => by omega, fun i h1 h2 => by omega⟩
theorem mid_bounds {lo hi : Int} (h : lo < hi) (h0 : 0 ≤ lo) : lo ≤ Int.fdiv (lo + hi) 2 ∧ Int.fdiv (lo + hi) 2 < hi := by
  rw [Int.fdiv_eq_ediv_of_nonneg _ (by decide)]; omega
theorem Bis.up {q : Nat → Bool} {n : Nat} {lo hi : Int} (hm : ∀ i j : Nat, i ≤ j → j < n → q j = true → q i = true) (h : Bis q n lo hi) (ht : lo < hi) (hq : q (Int.fdiv (lo + hi) 2).toNat = true) : Bis q n (Int.fdiv (lo + hi) 2 + 1) hi := by
  obtain ⟨a, b, c, d, e⟩ := h
  obtain ⟨m1, m2⟩ := mid_bounds ht a
  exact ⟨by omega, by omega, c, fun i hi' => hm i _ (by omega) (by omega) hq, e⟩
theorem Bis.down {q : Nat → Bool} {n : Nat} {lo hi : Int} (hm : ∀ i j : Nat, i ≤ j → j < n → q j = true → q i = true) (h : Bis q n lo hi) (ht : lo < hi) (hq : q (Int.fdiv (lo + hi) 2).toNat = false) : Bis q n lo (Int.fdiv (lo + hi) 2) := by
  obtain ⟨a, b, c, d, e⟩ := h
  obtain ⟨m1, m2⟩ := mid_bounds ht a
  refine ⟨a, m1, by omega, d, fun i h1 h2 => ?_⟩
  cases q' : q i with
  | false => rfl
  | true => rw [hm _ i (by omega) h2 q'] at hq; cases hq
/-- the place that a bisection ends at -/
def Cut (q : Nat → Bool) (n k : Nat) : Prop := k ≤ n ∧ (∀ i, i < k → q i = true) ∧ ∀ i, k ≤ i → i < n → q i = false
theorem Bis.done {q : Nat → Bool} {n : Nat} {lo hi : Int} (h : Bis q n lo hi) (ht : ¬ lo < hi) : lo = (lo.toNat : Int) ∧ Cut q n lo.toNat := by
  obtain ⟨a, b, c, d, e⟩ := h
  exact ⟨by omega, by omega, fun i hi' => d i (by omega), fun i h1 h2 => e i (by omega) h2⟩

theorem updOf {d : Addr} {o o' : Obj} {l : List (Addr × Obj)} {g : Obj → List (Addr × Obj)} (U : UpdF d o l g) : Upd d o o' l (g o') := by
  induction U with
  | head h => exact .head h
  | tail h _ ih => exact .tail h ih

theorem ins_at (vs : List Value) (k : Nat) (v : Value) (h : k ≤ vs.length) : kl_ins vs (k : Int) v = vs.take k ++ v :: vs.drop k := by
  unfold kl_ins
  have e : (if (k : Int) < 0 then ((k : Int) + (vs.length : Int)).toNat else min (k : Int).toNat vs.length) = k := by
    rw [if_neg (by omega)]; omega
  rw [e]

section
variable {prog : Program} {w : World} {A : Around} {E : Value → Shared → Prop} {s : Shared} {h₀ : Heap} {L D : Addr} {m : Str → Option Value} {news : List (Addr × Obj)} {g : Obj → List (Addr × Obj)}
theorem insert_K {vs : List Value} {n k : Nat} {u : Tok} {y : Value} {Q : Value → Shared → Prop} (F : Fr h₀ L s.heap m) (N : News h₀ L s.heap news) (U : UpdF D (listOf vs.toArray n) news g)
    (hk : k ≤ vs.length) (hl : vs.length < 1000) (h : ∀ h', Fr h₀ L h' m → News h₀ L h' (g (listOf (vs.take k ++ y :: vs.drop k).toArray (n + 1))) → Q .none { s with heap := h' }) :
    wpAny (model prog w) A (call (.builtin "list.insert") [.ref D, .int k u, y]) Q E s := by
  refine kl_insert F N ?_ (by simpa using ins_at vs k y hk) (updOf U) (by rw [sizeLine_eq]; simp; omega) h
  unfold Builtin.List.listFitsIndex
  simp only [Bool.and_eq_true, decide_eq_true_eq]
  omega
theorem append_KF {vs : List Value} {n : Nat} {y : Value} {Q : Value → Shared → Prop} (F : Fr h₀ L s.heap m) (N : News h₀ L s.heap news) (U : UpdF D (listOf vs.toArray n) news g)
    (hl : vs.length < 1000) (h : ∀ h', Fr h₀ L h' m → News h₀ L h' (g (listOf (vs ++ [y]).toArray (n + 1))) → Q .none { s with heap := h' }) :
    wpAny (model prog w) A (call (.builtin "list.append") [.ref D, y]) Q E s := by
  refine append_K F N (updOf U) (fun h' F' N' => h h' F' ?_) (by rw [sizeLine_eq]; simp; omega)
  simpa using N'
end

theorem br_eq (x : Str) : Str.ofString "{" ++ x ++ Str.ofString "}" ++ Str.ofString "n" = br x := by
  apply str_ext
  rw [br_list]
  have e1 : (Str.ofString "{").cps.toList = [123] := by decide +kernel
  have e2 : (Str.ofString "}").cps.toList = [125] := by decide +kernel
  have e3 : (Str.ofString "n").cps.toList = [110] := by decide +kernel
  show (((Str.ofString "{").cps ++ x.cps ++ (Str.ofString "}").cps ++ (Str.ofString "n").cps)).toList = _
  simp [e1, e2, e3]
/-- the dict of a QName -/
abbrev qd (w : World) (tx : Str) (k t : Tok) : Obj := dictOf [⟨PyData.keyHash w.params (Str.ofString "text"), .str (Str.ofString "text") k, .str tx t⟩] 1

def IsQ (w : World) (news : List (Addr × Obj)) (v : Value) (tx : Str) : Prop := ∃ q d k t, v = .ref q ∧ (q, instObj 145 d) ∈ news ∧ (d, qd w tx k t) ∈ news
def QsAre (w : World) (news : List (Addr × Obj)) (vs : List Value) (txs : List Str) : Prop := vs.length = txs.length ∧ ∀ (i : Nat) v tx, vs[i]? = some v → txs[i]? = some tx → IsQ w news v tx
theorem IsQ.mono {w : World} {news news' : List (Addr × Obj)} {v : Value} {tx : Str} (h : IsQ w news v tx) (hs : ∀ p ∈ news, p ∈ news') : IsQ w news' v tx := by
  obtain ⟨q, d, k, t, e, h1, h2⟩ := h
  exact ⟨q, d, k, t, e, hs _ h1, hs _ h2⟩
theorem QsAre.mono {w : World} {news news' : List (Addr × Obj)} {vs : List Value} {txs : List Str} (h : QsAre w news vs txs) (hs : ∀ p ∈ news, p ∈ news') : QsAre w news' vs txs :=
  ⟨h.1, fun i v tx a b => (h.2 i v tx a b).mono hs⟩
section
variable {prog : Program} {w : World} {A : Around} {E : Value → Shared → Prop} {s : Shared}
theorem item_Q {value slice : Expr} {a : Addr} {vs : List Value} {txs : List Str} {news : List (Addr × Obj)} {k : Int} {u : Tok} {Q : Value → Shared → Prop} (hl : s.heap.IsList a vs.toArray) (hi : QsAre w news vs txs)
    (h0 : 0 ≤ k) (hk : k < txs.length) (hfit : k < 2 ^ 63) (h : ∀ q d kk t, (q, instObj 145 d) ∈ news → (d, qd w (txs.getD k.toNat Str.empty) kk t) ∈ news → Q (.ref q) s)
    (hs : subscripted slice false (.ref a) (.int k u) = operate [.ref a, .int k u] (getItem (.ref a) (.int k u)) := by with_unfolding_all rfl) (hg : ∀ r, letTemporaryGo value (.ref a) r = pure () := by intro _; with_unfolding_all rfl) :
    wpAny (model prog w) A (subscriptTail value slice (.ref a) (.int k u)) Q E s := by
  have hlt : k.toNat < txs.length := by omega
  have e : txs[k.toNat]? = some (txs.getD k.toNat Str.empty) := by simp [List.getD, hlt]
  have hv : vs[k.toNat]? = some (vs[k.toNat]'(by rw [hi.1]; exact hlt)) := by simp
  obtain ⟨q, d, kk, t, e1, h1, h2⟩ := hi.2 _ _ _ hv e
  rw [e1] at hv
  exact item_listL hl h0 hfit hv (h q d kk t h1 h2) hs hg
theorem len_list_K {a : Addr} {vs : List Value} {n : Nat} {Q : Value → Shared → Prop} (hl : s.heap.IsList a vs.toArray) (e : vs.length = n) (hfit : n < 1000)
    (h : Q (.int n (s.toks + 1)) { s with toks := s.toks + 1 + 1 }) : wpAny (model prog w) A (call (.builtin "len") [.ref a]) Q E s := by
  refine len_list hl (by rw [List.size_toArray]; omega) ?_
  rw [List.size_toArray, e]
  exact h
end
end Mine
end PartU1

section PartU2
open PySem PySem.W PyProof.Rows PySem.Spec PySem.Calls
namespace Mine
section
variable {prog : Program} {w : World} {A : Around} {E : Value → Shared → Prop} {Q : Flow → Shared → Prop} {s : Shared} {env : Env} {h₀ : Heap} {L : Addr} {news : List (Addr × Obj)}

def FrEnd (h₀ : Heap) (L : Addr) (s : Shared) (J : (Str → Option Value) → List (Addr × Obj) → Prop) (it : Addr) (o : Obj) (s₂ : Shared) : Prop :=
  ∃ h' tk m' news', s₂ = { s with heap := h', toks := tk } ∧ Fr h₀ L h' m' ∧ News h₀ L h' ((it, o) :: news') ∧ (∀ p ∈ news', p.1 ≠ it) ∧ J m' news'
theorem FrEnd.mk {h₀ h' : Heap} {L it : Addr} {s : Shared} {J : (Str → Option Value) → List (Addr × Obj) → Prop} {o : Obj} {tk : Tok} {m' : Str → Option Value} {news' : List (Addr × Obj)}
    (F : Fr h₀ L h' m') (N : News h₀ L h' ((it, o) :: news')) (ha : ∀ p ∈ news', p.1 ≠ it) (hJ : J m' news') : FrEnd h₀ L s J it o { s with heap := h', toks := tk } := ⟨_, _, _, _, rfl, F, N, ha, hJ⟩
def FrPost (h₀ : Heap) (L : Addr) (s : Shared) (J : (Str → Option Value) → List (Addr × Obj) → Prop) (it : Addr) (o : Obj) (Q : Flow → Shared → Prop) (f : Flow) (s₂ : Shared) : Prop :=
  match f with
  | .ret v => Q (.ret v) s₂
  | .brk => Q .next s₂
  | _ => FrEnd h₀ L s J it o s₂

def ForAt (prog : Program) (w : World) (A : Around) (env : Env) (x : Str) (px : Pos) (body : List Stmt) (Q : Flow → Shared → Prop) (E : Value → Shared → Prop) (it : Value) (s₂ : Shared) : Prop :=
  codeAny (model prog w) A (.forLoop (.Name x px) it body [] env) (fun r s' => match r with | .ok f => Q f s' | .error e => cameBackBy (model prog w) A env E e s') s₂

theorem for_start {x : Str} {px pos : Pos} {iter : Expr} {body : List Stmt}
    (h : wpAny (model prog w) A (eval iter env) (fun xv s₁ => wpAny (model prog w) A (pyIter xv) (fun it s₂ => ForAt prog w A env x px body Q E it s₂) E s₁) E s)
    (hs : ∀ x, foldedSetIterable iter env x = pure x) :
    wpAny (model prog w) A (exec (.For (.Name x px) iter body [] pos) env) Q E s := wpAny_For h hs

def ForInv (h₀ : Heap) (L : Addr) (s : Shared) (l it : Addr) (N : Nat) (J : Nat → (Str → Option Value) → List (Addr × Obj) → Prop) (k : Nat) (s' : Shared) : Prop :=
  ∃ h' tk m' news' i, s' = { s with heap := h', toks := tk } ∧ h'.IsListIter it l i ∧ Fr h₀ L h' m' ∧ News h₀ L h' news' ∧ (∀ p ∈ news', p.1 ≠ it) ∧ J i m' news' ∧ i ≤ N ∧ k = N + 1 - i
theorem for_list {x : Str} {px : Pos} {body : List Stmt} {l : Addr} {vs : List Value} {n : Nat} {m₀ : Str → Option Value} (J : Nat → (Str → Option Value) → List (Addr × Obj) → Prop)
    (hh : A.handled = none) (hE : PassesOwn (model prog w) A env E) (hl : env.locals = L) (F : Fr h₀ L s.heap m₀) (N : News h₀ L s.heap news) (hJl : ∀ i m nx, J i m nx → (l, listOf vs.toArray n) ∈ nx) (hj : J 0 m₀ news)
    (turn : ∀ i v m₁ news₁ it o h tk (R : Flow → Shared → Prop) (X : Value → Shared → Prop), (∀ f s', FrPost h₀ L s (J (i + 1)) it o Q f s' → R f s') → PassesOwn (model prog w) A env X → vs[i]? = some v → J i m₁ news₁ → (∀ p ∈ news₁, p.1 ≠ it) → (∀ p ∈ news, p.1 < it) → Fr h₀ L h m₁ → News h₀ L h ((it, o) :: news₁) →
      wpAny (model prog w) A (storeName env x v) (fun _ s' => wpAny (model prog w) A (execs body env) R X s') X { s with heap := h, toks := tk })
    (done : ∀ m₁ news₁ h tk, J vs.length m₁ news₁ → Fr h₀ L h m₁ → News h₀ L h news₁ → Q .next { s with heap := h, toks := tk }) :
    wpAny (model prog w) A (pyIter (.ref l)) (fun it s₂ => ForAt prog w A env x px body Q E it s₂) E s := by
  have hls : s.heap.IsList l vs.toArray := News.isList N (hJl _ _ _ hj)
  have hlt : l < s.heap.objs.size := Heap.lt_size (N _ (hJl _ _ _ hj)).1
  refine wpAny_pyIter_list hls ?_
  generalize hit : s.heap.objs.size = it
  have hne : l ≠ it := by rw [← hit]; exact Nat.ne_of_lt hlt
  have hLlt : L < it := by rw [← hit]; exact F.ns.lt
  have W := Walks.list (prog := prog) (w := w) hh it l hne vs.toArray
  have hnew : ∀ p ∈ news, p.1 < it := fun p hp => by rw [← hit]; exact Heap.lt_size (N p hp).1
  have hit0 : h₀.get? it = none := Heap.get?_none_of_le (Nat.le_trans F.above (Nat.le_of_lt hLlt))
  unfold ForAt
  refine codeAny_forLoop (ForInv h₀ L s l it vs.length J) ?_ (vs.length + 1)
    ⟨_, s.toks, m₀, news, 0, rfl, ⟨_, by rw [← hit]; exact Heap.get?_push_size _ rfl, rfl, rfl⟩, F.push _, (fun p hp => ⟨Heap.get?_push_of_some _ (N p hp).1, (N p hp).2⟩), fun p hp => Nat.ne_of_lt (hnew p hp), hj, Nat.zero_le _, rfl⟩
  rintro k s' ⟨h', tk, m', news', i, rfl, hst', F', N', hnw', hJ, hi, rfl⟩
  have hlst : h'.IsList l vs.toArray := News.isList N' (hJl _ _ _ hJ)
  have next : ∀ h₁ : Heap, (∀ b o, b ∉ [it] → h'.get? b = some o → h₁.get? b = some o) → Fr h₀ L h₁ m' ∧ News h₀ L h₁ news' := fun h₁ hk₁ =>
    ⟨⟨F'.ns.at' fun o e => hk₁ _ o (by simp; exact Nat.ne_of_lt hLlt) e, fun b o e => hk₁ b o (by simp; intro q; rw [q, hit0] at e; cases e) (F'.keep b o e), F'.above⟩, fun p hp => ⟨hk₁ _ _ (by simp; exact hnw' p hp) (N' p hp).1, (N' p hp).2⟩⟩
  by_cases hlt : i < vs.length
  · refine W.item i _ _ _ (by simpa using hlt) ⟨hst', hlst⟩ fun v h₁ tk₁ hP hst₁ hk₁ => ?_
    obtain ⟨F₁, N₁⟩ := next h₁ hk₁
    obtain ⟨oi, hoi, hoc, hod⟩ := hst₁.1
    have N₂ : News h₀ L h₁ ((it, oi) :: news') := by
      intro p hp
      rcases List.mem_cons.mp hp with rfl | hp
      · exact ⟨hoi, Nat.ne_of_gt hLlt, hit0⟩
      · exact N₁ p hp
    refine wpAny_assign_Name ?_
    refine wpAny_passesOwn hE (wpAny_mono (turn i v m' news' it oi h₁ tk₁ _ E (fun _ _ h => h) hE (by simpa using hP) hJ hnw' hnew F₁ N₂) (fun _ s₂ h₂ => wpAny_passesOwn hE (wpAny_mono h₂ (fun f s₃ h₃ => ?_) fun _ _ e => e)) fun _ _ e => e)
    have fin : FrEnd h₀ L s (J (i + 1)) it oi s₃ → ∃ m, m < vs.length + 1 - i ∧ ForInv h₀ L s l it vs.length J m s₃ := by
      rintro ⟨h₄, tk₄, m₄, news₄, rfl, F₄, N₄, ha, hJ₄⟩
      refine ⟨vs.length + 1 - (i + 1), by omega, h₄, tk₄, m₄, news₄, i + 1, rfl, ⟨oi, (N₄ _ (.head _)).1, hoc, hod⟩, F₄, fun p hp => N₄ p (.tail _ hp), ha, hJ₄, hlt, rfl⟩
    cases f with
    | ret v => exact h₃
    | brk => exact h₃
    | next => exact fin h₃
    | cont => exact fin h₃
  · have hin : i = vs.length := by omega
    subst hin
    refine W.done _ _ _ (by simpa using ⟨hst', hlst⟩) fun h₁ tk₁ hk₁ => wpAny_execs_nil ?_
    obtain ⟨F₁, N₁⟩ := next h₁ hk₁
    exact done m' news' h₁ tk₁ hJ F₁ N₁
end
end Mine
end PartU2

section PartU3
open PySem PySem.W PyProof.Rows PySem.Spec PySem.Calls
set_option linter.unusedVariables false
namespace Mine

/-- a value and the name that it stands for -/
abbrev VN := Value × Str
abbrev Row := List VN
def ltP (lt : Str → Str → Bool) (a b : VN) : Bool := lt a.2 b.2

theorem tab_cut {lt : Str → Str → Bool} {x : VN} {row : Row} {t : List Row} {k : Nat} (c : Cut (fun i => !lt x.2 (row.getD i default).2) row.length k) :
    (k = row.length → tabIns (ltP lt) x (row :: t) = (row ++ [x]) :: t) ∧ (∀ h : k < row.length, tabIns (ltP lt) x (row :: t) = (row.set k x) :: tabIns (ltP lt) (row[k]) t) := by
  obtain ⟨c1, c2, c3⟩ := c
  have low : ∀ i (h : i < row.length), i < k → ltP lt x row[i] = false := fun i h hi => by
    have := c2 i hi
    simp only [List.getD_eq_getElem?_getD, List.getElem?_eq_getElem h, Option.getD_some] at this
    simpa [ltP] using this
  constructor
  · intro e
    refine tabIns_none fun z hz => ?_
    obtain ⟨i, hi, rfl⟩ := List.getElem_of_mem hz
    exact low i hi (by omega)
  · intro h
    have hk : ltP lt x row[k] = true := by
      have := c3 k (Nat.le_refl _) h
      simp only [List.getD_eq_getElem?_getD, List.getElem?_eq_getElem h, Option.getD_some] at this
      simpa [ltP] using this
    have e : row = row.take k ++ row[k] :: row.drop (k + 1) := by
      rw [List.getElem_cons_drop]; exact (List.take_append_drop k row).symm
    have hs : row.set k x = row.take k ++ x :: row.drop (k + 1) := by
      rw [List.set_eq_take_append_cons_drop, if_pos h]
    rw [hs]
    conv => lhs; rw [e]
    refine tabIns_some (fun z hz => ?_) hk
    obtain ⟨i, hi, rfl⟩ := List.getElem_of_mem hz
    rw [List.getElem_take]
    rw [List.length_take] at hi
    exact low i (by omega) (by omega)

structure LeOf (lt le : Str → Str → Bool) : Prop where
  yes : ∀ x y, lt x y = true → le x y = true
  no : ∀ x y, lt x y = false → le y x = true
  trans : ∀ x y z, le x y = true → le y z = true → le x z = true
  mono : ∀ x y z, le y z = true → lt x y = true → lt x z = true

structure RowGood (le : Str → Str → Bool) (zs : Row) (c : Nat) (row : Row) : Prop where
  sub : ∀ y ∈ row, y ∈ zs
  asc : row.Pairwise (fun a b => le a.2 b.2 = true)
  len : row.length ≤ c

theorem RowGood.up {le : Str → Str → Bool} {zs row : Row} {c c' : Nat} (h : RowGood le zs c row) (hc : c ≤ c') : RowGood le zs c' row := ⟨h.sub, h.asc, Nat.le_trans h.len hc⟩

theorem cut_low {lt : Str → Str → Bool} {x : Str} {row : Row} {k : Nat} (c : Cut (fun i => !lt x (row.getD i default).2) row.length k) (i : Nat) (hi : i < row.length) (h : i < k) : lt x row[i].2 = false := by
  have := c.2.1 i h
  simp only [List.getD_eq_getElem?_getD, List.getElem?_eq_getElem hi, Option.getD_some] at this
  simpa using this
theorem cut_high {lt : Str → Str → Bool} {x : Str} {row : Row} {k : Nat} (c : Cut (fun i => !lt x (row.getD i default).2) row.length k) (i : Nat) (hi : i < row.length) (h : k ≤ i) : lt x row[i].2 = true := by
  have := c.2.2 i h hi
  simp only [List.getD_eq_getElem?_getD, List.getElem?_eq_getElem hi, Option.getD_some] at this
  simpa using this

theorem RowGood.push {lt le : Str → Str → Bool} (O : LeOf lt le) {zs row : Row} {c : Nat} {x : VN} (h : RowGood le zs c row) (hx : x ∈ zs) (hc : Cut (fun i => !lt x.2 (row.getD i default).2) row.length row.length) : RowGood le zs (c + 1) (row ++ [x]) := by
  refine ⟨fun y hy => ?_, ?_, by rw [List.length_append]; have := h.len; simp; omega⟩
  · rcases List.mem_append.mp hy with q | q
    · exact h.sub y q
    · rw [List.mem_singleton.mp q]; exact hx
  · rw [List.pairwise_append]
    refine ⟨h.asc, List.pairwise_singleton _ _, fun a ha b hb => ?_⟩
    rw [List.mem_singleton.mp hb]
    obtain ⟨i, hi, rfl⟩ := List.getElem_of_mem ha
    exact O.no _ _ (cut_low hc i hi hi)

theorem RowGood.set {lt le : Str → Str → Bool} (O : LeOf lt le) {zs row : Row} {c k : Nat} {x : VN} (h : RowGood le zs c row) (hx : x ∈ zs) (hk : k < row.length) (hc : Cut (fun i => !lt x.2 (row.getD i default).2) row.length k) : RowGood le zs c (row.set k x) := by
  refine ⟨fun y hy => ?_, ?_, by rw [List.length_set]; exact h.len⟩
  · rcases List.mem_or_eq_of_mem_set hy with q | q
    · exact h.sub y q
    · rw [q]; exact hx
  · rw [List.pairwise_iff_getElem]
    intro i j hi hj hij
    have hi' : i < row.length := by simpa using hi
    have hj' : j < row.length := by simpa using hj
    rw [List.getElem_set, List.getElem_set]
    by_cases e1 : k = i
    · by_cases e2 : k = j
      · omega
      · rw [if_pos e1, if_neg e2]
        exact O.yes _ _ (cut_high hc j hj' (by omega))
    · rw [if_neg e1]
      by_cases e2 : k = j
      · rw [if_pos e2]
        exact O.no _ _ (cut_low hc i hi' (by omega))
      · rw [if_neg e2]
        exact List.pairwise_iff_getElem.mp h.asc i j hi' hj' hij

/-- the ledger without one address -/
def but (a : Addr) (nx : List (Addr × Obj)) : List (Addr × Obj) := nx.filter fun p => decide (p.1 ≠ a)
theorem mem_but {a : Addr} {nx : List (Addr × Obj)} {p : Addr × Obj} : p ∈ but a nx ↔ p ∈ nx ∧ p.1 ≠ a := by simp [but]
theorem but_ne {a : Addr} {nx : List (Addr × Obj)} : ∀ p ∈ but a nx, p.1 ≠ a := fun p hp => (mem_but.mp hp).2
theorem news_sub {h₀ : Heap} {L : Addr} {h : Heap} {l l' : List (Addr × Obj)} (N : News h₀ L h l) (hs : ∀ p ∈ l', p ∈ l) : News h₀ L h l' := fun p hp => N p (hs p hp)
theorem news_front {h₀ : Heap} {L a : Addr} {h : Heap} {o : Obj} {nx : List (Addr × Obj)} (N : News h₀ L h nx) (hm : (a, o) ∈ nx) : News h₀ L h ((a, o) :: but a nx) := fun p hp => by
  rcases List.mem_cons.mp hp with rfl | hp
  · exact N _ hm
  · exact N p (mem_but.mp hp).1

structure TabAt (nx : List (Addr × Obj)) (T : Addr) (nT : Nat) (rs : List Addr) (tbl : List Row) : Prop where
  top : (T, listOf (rs.map Value.ref).toArray nT) ∈ nx
  len : rs.length = tbl.length
  row : ∀ (j : Nat) r row, rs[j]? = some r → tbl[j]? = some row → ∃ n, (r, listOf (row.map (·.1)).toArray n) ∈ nx

theorem TabAt.keep {nx nx' : List (Addr × Obj)} {T : Addr} {nT : Nat} {rs : List Addr} {tbl : List Row} {S : List Addr} (h : TabAt nx T nT rs tbl) (hk : ∀ p ∈ nx, p.1 ∉ S → p ∈ nx') (hT : T ∉ S) (hr : ∀ r ∈ rs, r ∉ S) : TabAt nx' T nT rs tbl :=
  ⟨hk _ h.top hT, h.len, fun j r row h1 h2 => by
    obtain ⟨n, hm⟩ := h.row j r row h1 h2
    exact ⟨n, hk _ hm (hr r (List.mem_of_getElem? h1))⟩⟩

theorem TabAt.upd {nx nx' : List (Addr × Obj)} {T : Addr} {nT n' : Nat} {rs : List Addr} {tbl : List Row} {j : Nat} {r : Addr} {row' : Row} (h : TabAt nx T nT rs tbl) (hj : rs[j]? = some r) (hnd : rs.Nodup) (hT : T ≠ r)
    (hk : ∀ p ∈ nx, p.1 ≠ r → p ∈ nx') (hm : (r, listOf (row'.map (·.1)).toArray n') ∈ nx') : TabAt nx' T nT rs (tbl.set j row') := by
  refine ⟨hk _ h.top hT, by rw [List.length_set]; exact h.len, fun i r' row h1 h2 => ?_⟩
  by_cases e : j = i
  · subst e
    rw [hj] at h1
    cases h1
    have hjl : j < tbl.length := by
      rw [← h.len]
      exact (List.getElem?_eq_some_iff.mp hj).1
    rw [List.getElem?_set_self hjl] at h2
    cases h2
    exact ⟨n', hm⟩
  · rw [List.getElem?_set_ne e] at h2
    obtain ⟨n, hm2⟩ := h.row i r' row h1 h2
    refine ⟨n, hk _ hm2 ?_⟩
    intro q
    have q' : r' = r := q
    subst q'
    obtain ⟨a1, b1⟩ := List.getElem?_eq_some_iff.mp hj
    obtain ⟨a2, b2⟩ := List.getElem?_eq_some_iff.mp h1
    rcases Nat.lt_or_gt_of_ne e with q | q
    · exact List.pairwise_iff_getElem.mp hnd _ _ a1 a2 q (b1.trans b2.symm)
    · exact List.pairwise_iff_getElem.mp hnd _ _ a2 a1 q (b2.trans b1.symm)

/-- a frame whose stored names are told and whose others stand -/
def mset (m₀ : Str → Option Value) : List (Str × Option Value) → Str → Option Value
  | [] => m₀
  | p :: r => fun z => if z = p.1 then p.2 else mset m₀ r z
theorem mset_at {m₀ m₁ : Str → Option Value} {z : Str} : ∀ {l : List (Str × Option Value)}, (∀ p ∈ l, m₁ p.1 = p.2) → (z ∉ l.map (·.1) → m₁ z = m₀ z) → mset m₀ l z = m₁ z
  | [], _, h => (h (by simp)).symm
  | p :: r, h1, h2 => by
    show (if z = p.1 then p.2 else mset m₀ r z) = m₁ z
    by_cases e : z = p.1
    · rw [if_pos e, e]; exact (h1 p List.mem_cons_self).symm
    · rw [if_neg e]
      refine mset_at (fun q hq => h1 q (List.mem_cons_of_mem _ hq)) fun hz => h2 ?_
      rw [List.map_cons, List.mem_cons, not_or]
      exact ⟨e, hz⟩
theorem mset_eq {m₀ m₁ : Str → Option Value} {l : List (Str × Option Value)} (h1 : ∀ p ∈ l, m₁ p.1 = p.2) (h2 : ∀ z, z ∉ l.map (·.1) → m₁ z = m₀ z) : m₁ = mset m₀ l :=
  funext fun z => (mset_at h1 (h2 z)).symm

section
variable {prog : Program} {w : World} {A : Around} {E : Value → Shared → Prop} {s : Shared} {h₀ : Heap} {L D : Addr} {m : Str → Option Value} {news : List (Addr × Obj)} {g : Obj → List (Addr × Obj)}
theorem set_KF {vs : List Value} {n k : Nat} {t : Tok} {y : Value} {Q : Unit → Shared → Prop} (F : Fr h₀ L s.heap m) (N : News h₀ L s.heap news) (U : UpdF D (listOf vs.toArray n) news g)
    (h1 : k < vs.length) (hfit : vs.length < 1000) (h : ∀ h', Fr h₀ L h' m → News h₀ L h' (g (listOf (vs.set k y).toArray n)) → Q () { s with heap := h' }) :
    wpAny (model prog w) A (setItem (.ref D) (.int k t) y) Q E s := by
  obtain ⟨pre, post, rfl, hg, a, b⟩ := U.split
  have z := N (D, listOf vs.toArray n) (List.mem_append.mpr (.inr (.head _)))
  have hs : vs.toArray.size = vs.length := by rw [List.size_toArray]
  refine ki_setAt z.1 (by omega) (by omega) (by omega) (h _ (F.change (Heap.SameBut.update ..) z.2.1 z.2.2) (hg _ ▸ ki_turn _ N a b ?_ ?_))
  · show vs.toArray.setIfInBounds k y = (vs.set k y).toArray
    apply Array.toList_inj.mp
    simp
  · simp
end

theorem fr_mset {g : Heap} {L : Addr} {h : Heap} {m₁ : Str → Option Value} {l : List (Str × Option Value)} (F : Fr g L h m₁) (hl : ∀ p ∈ l, m₁ p.1 = p.2) : Fr g L h (mset m₁ l) := (mset_eq (m₀ := m₁) hl fun _ _ => rfl) ▸ F

section
variable {prog : Program} {w : World} {A : Around} {E : Value → Shared → Prop} {s : Shared}
theorem item_row {value slice : Expr} {a : Addr} {row : Row} {k : Nat} {u : Tok} {Q : Value → Shared → Prop} (hl : s.heap.IsList a (row.map (·.1)).toArray) (hk : k < row.length) (hfit : row.length < 1000) (h : Q (row[k].1) s)
    (hs : subscripted slice false (.ref a) (.int k u) = operate [.ref a, .int k u] (getItem (.ref a) (.int k u)) := by with_unfolding_all rfl) (hg : ∀ r, letTemporaryGo value (.ref a) r = pure () := by intro _; with_unfolding_all rfl) :
    wpAny (model prog w) A (subscriptTail value slice (.ref a) (.int k u)) Q E s := by
  refine item_listL hl (by omega) (by omega) ?_ h hs hg
  simp [hk]
end

theorem set_mid {α : Type} (P : List α) (r row' : α) (t : List α) : (P ++ r :: t).set P.length row' = P ++ row' :: t := by
  induction P with
  | nil => rfl
  | cons a P ih => simp

theorem tabIns_len {α : Type} {lt : α → α → Bool} : ∀ (t : List (List α)) (x : α), (tabIns lt x t).length ≤ t.length + 1
  | [], x => by simp [tabIns]
  | row :: t, x => by
    unfold tabIns
    cases row.find? (fun y => lt x y) with
    | none => simp
    | some y => simp only [List.length_cons]; have := tabIns_len (lt := lt) t y; omega
theorem fold_len {α : Type} {lt : α → α → Bool} : ∀ (l : List α) (t : List (List α)), (l.foldl (fun t x => tabIns lt x t) t).length ≤ t.length + l.length
  | [], t => by simp
  | x :: l, t => by
    rw [List.foldl_cons, List.length_cons]
    have h1 := fold_len (lt := lt) l (tabIns lt x t)
    have h2 := tabIns_len (lt := lt) t x
    omega

section
variable {prog : Program} {w : World} {A : Around} {E : Value → Shared → Prop} {s : Shared} {h₀ : Heap} {L : Addr} {m : Str → Option Value} {news : List (Addr × Obj)}
theorem add_K {l b : Addr} {vs ws : List Value} {Q : Value → Shared → Prop} (F : Fr h₀ L s.heap m) (N : News h₀ L s.heap news) (hl : s.heap.IsList l vs.toArray) (hb : s.heap.IsList b ws.toArray) (hsz : vs.length + ws.length < 1000)
    (h : ∀ l' h', Fr h₀ L h' m → News h₀ L h' ((l', listOf (vs ++ ws).toArray 0) :: news) → (∀ p ∈ news, p.1 < l') → Q (.ref l') { s with heap := h' }) :
    wpAny (model prog w) A (binaryOp .Add (.ref l) (.ref b)) Q E s :=
  add_lists (vs := vs) (ws := ws) (hsz := by rw [sizeLine_eq]; omega) F N hl hb fun h' F' N' => h _ h' F' N' fun p hp => Heap.lt_size (N p hp).1
end
end Mine
end PartU3

section PartU4
open PySem PySem.W PyProof.Rows PySem.Spec PySem.Calls
namespace Mine
/-- what a place-finder answers: the first place in the row whose name the left one is before -/
def SpotSpec (w : World) (p : Program) (loose : List Str) (mean : ExcName → Option Value) (mg mb : Str → Option Value) (sp : Addr) (I : List (Addr × Obj) → Prop) (Is : List (Addr × Obj) → Value → Str → Prop) (lt le : Str → Str → Bool) : Prop :=
  ∀ (dp un : Nat) (gd : Option (List Code)) (cn : Str) (cs : Scope) (a : Addr) (ccd : Value) (cl : List (Str × Addr)) (outer : List Env) (A₀ : Around) (base h₀ : Heap) (L : Addr) (m : Str → Option Value) (news : List (Addr × Obj)) (s : Shared) (Q E : Value → Shared → Prop)
    (D : Addr) (row : Row) (n : Nat) (v : Value) (x : Str) (X₀ : List (Addr × Obj)),
    Below A₀ base outer h₀ → Fr h₀ L s.heap m → (Mine.hd.heap_39 w.params).In h₀ → News h₀ L s.heap news → Top p loose mean mg mb h₀ → CodeHd base 160 156 → cs.kind = .function → dp + 40 < recursionLimit → un + 100 < cLine →
    (D, listOf (row.map (·.1)).toArray n) ∈ news → row.length < 200 → I X₀ → (∀ q ∈ X₀, q ∈ news) → (∀ z ∈ row, Is news z.1 z.2) → Is news v x → row.Pairwise (fun a b => le a.2 b.2 = true) →
    (∀ k t h' tk' news' X', Cut (fun i => !lt x (row.getD i default).2) row.length k → Fr h₀ L h' m → News h₀ L h' news' → (∀ p ∈ news, p.1 ≠ 156 → p ∈ news') → I X' → (∀ q ∈ X', q ∈ news') → (∀ q ∈ X', (∃ q' ∈ X₀, q'.1 = q.1) ∨ ∀ q' ∈ news, q'.1 < q.1) → Q (.int (k : Nat) t) { s with heap := h', toks := tk' }) →
    wpAny (model PySem.Challenge.rw_wu0067_01.row.prog w) (ktrTop dp un gd cn cs L a ccd cl outer) (call (.ref sp) [.ref D, v]) Q E s
end Mine
end PartU4

section PartU5
open PySem PySem.W PyProof.Rows PySem.Spec PySem.Calls
set_option linter.unusedVariables false
namespace Mine
theorem n01 (a : Nat) : a < a + 1 := by omega
theorem n02 (a : Nat) : a < a + 2 := by omega
theorem n12 (a : Nat) : a + 1 < a + 2 := by omega
theorem nT {a b : Nat} (h : a < b) : a < b + 1 := by omega
theorem nT2 {a b : Nat} (h : a < b) : a < b + 2 := by omega
theorem nL1 (a : Nat) : a ≤ a + 1 := by omega
theorem nL2 (a : Nat) : a ≤ a + 2 := by omega
/-- an object that holds names -/
def NsO (o : Obj) (m : Str → Option Value) : Prop := ∃ es ep, o.data = .dict es ep ∧ StrKeys es ∧ ∀ name, nsFind es name = m name
theorem NsO.ns {o : Obj} {m : Str → Option Value} {h : Heap} {a : Addr} (x : NsO o m) (e : h.get? a = some o) : h.Ns a m := let ⟨es, ep, h1, h2, h3⟩ := x; ⟨o, es, ep, e, h1, h2, h3⟩

section
variable {prog : Program} {w : World} {A : Around} {E : Value → Shared → Prop} {s : Shared} {env : Env} {h₀ : Heap} {L : Addr} {news : List (Addr × Obj)} {m : Str → Option Value}

def Off (nx : List (Addr × Obj)) (C D it : Addr) : Prop := ∀ p ∈ nx, p.1 ≠ C ∧ p.1 ≠ D ∧ p.1 ≠ it
def CEnd (h₀ : Heap) (L : Addr) (m : Str → Option Value) (s : Shared) (C : Addr) (oC : Obj) (it : Addr) (o : Obj) (D : Addr) (oD : Obj) (J : List (Addr × Obj) → Prop) (s₂ : Shared) : Prop :=
  ∃ h' tk nx, s₂ = { s with heap := h', toks := tk } ∧ Fr h₀ L h' m ∧ News h₀ L h' ((C, oC) :: (it, o) :: (D, oD) :: nx) ∧ Off nx C D it ∧ J nx
theorem CEnd.mk {h₀ h' : Heap} {L C it D : Addr} {m : Str → Option Value} {s : Shared} {oC o oD : Obj} {J : List (Addr × Obj) → Prop} {tk : Tok} {nx : List (Addr × Obj)}
    (F : Fr h₀ L h' m) (N : News h₀ L h' ((C, oC) :: (it, o) :: (D, oD) :: nx)) (ha : Off nx C D it) (hJ : J nx) : CEnd h₀ L m s C oC it o D oD J { s with heap := h', toks := tk } := ⟨_, _, _, rfl, F, N, ha, hJ⟩

def CTests (prog : Program) (w : World) (A : Around) (ifs : List Expr) (cenv : Env) (Q : Bool → Shared → Prop) (s : Shared) : Prop :=
  wpAny (model prog w) A (forIn ifs true fun c r => if r = true then do let ok ← isTrue c cenv (eval c cenv); pure (ForInStep.yield ok) else pure (ForInStep.yield r)) Q (fun _ _ => False) s
theorem ctests_nil {cenv : Env} {Q : Bool → Shared → Prop} (h : Q true s) : CTests prog w A [] cenv Q s := wpAny_tests_nil h
theorem ctests_one {c : Expr} {cenv : Env} {Q : Bool → Shared → Prop} (h : wpAny (model prog w) A (isTrue c cenv (eval c cenv)) Q (fun _ _ => False) s) : CTests prog w A [c] cenv Q s := wpAny_tests_one h

def CompInv (h₀ : Heap) (L : Addr) (m : Str → Option Value) (s : Shared) (l C D it : Addr) (N : Nat) (J : Nat → List Value → List (Addr × Obj) → Prop) (k : Nat) (s' : Shared) : Prop :=
  ∃ h' tk acc nx oC mC nD i, s' = { s with heap := h', toks := tk } ∧ h'.IsListIter it l i ∧ Fr h₀ L h' m ∧ News h₀ L h' ((C, oC) :: (D, listOf acc.toArray nD) :: nx) ∧ NsO oC mC ∧ Off nx C D it ∧ J i acc nx ∧ i ≤ N ∧ k = N + 1 - i
theorem comp_loop {elt iter : Expr} {x : Str} {px : Pos} {ifs : List Expr} {scope : Scope} {pos : Pos} {l C D it : Addr} {vs : List Value} {n nD : Nat} {cenv : Env} {R : Result → Shared → Prop} {oC₀ : Obj} {mC₀ : Str → Option Value}
    (J : Nat → List Value → List (Addr × Obj) → Prop) (hh : A.handled = none) (hx : cenv.kindOf x = some .local) (hp : (cenv.scope.kind == .class || (cenv.scope.kind == .module && cenv.locals != cenv.globals)) = false) (hC : cenv.locals = C)
    (hlen : vs.length < 1000) (hLC : L ≠ C) (hCD : C ≠ D) (hCi : C ≠ it) (hDi : D ≠ it)
    (hJl : ∀ i acc nx, J i acc nx → (l, listOf vs.toArray n) ∈ nx) (hJa : ∀ i acc nx, J i acc nx → acc.length ≤ i) (hj : J 0 [] news) (hoff : Off news C D it)
    (hst : s.heap.IsListIter it l 0) (hit0 : h₀.get? it = none) (hLi : it ≠ L) (F : Fr h₀ L s.heap m) (N : News h₀ L s.heap ((C, oC₀) :: (D, listOf ([] : List Value).toArray nD) :: news)) (hns : NsO oC₀ mC₀)
    (turn : ∀ i v acc nx oC mC nD o h tk, vs[i]? = some v → J i acc nx → Off nx C D it → NsO oC mC → mC x = some v → Fr h₀ L h m → News h₀ L h ((C, oC) :: (it, o) :: (D, listOf acc.toArray nD) :: nx) →
      CTests prog w A ifs cenv (fun ok s₃ => if ok = true then wpAny (model prog w) A (eval elt cenv) (fun y s₄ => CEnd h₀ L m s C oC it o D (listOf acc.toArray nD) (J (i + 1) (acc ++ [y])) s₄) (fun _ _ => False) s₃
        else CEnd h₀ L m s C oC it o D (listOf acc.toArray nD) (J (i + 1) acc) s₃) { s with heap := h, toks := tk })
    (done : ∀ acc nx oC mC nD h tk, J vs.length acc nx → Off nx C D it → NsO oC mC → Fr h₀ L h m → News h₀ L h ((C, oC) :: (D, listOf acc.toArray nD) :: nx) → R (.ok .next) { s with heap := h, toks := tk }) :
    codeAny (model prog w) A (.compLoop (.ListComp elt [⟨.Name x px, iter, ifs, 0⟩] scope pos) 0 (.ref it) (.ref D) cenv) R s := by
  have ne_l : ∀ {i acc nx}, J i acc nx → Off nx C D it → l ≠ it := fun hJ ho => (ho _ (hJl _ _ _ hJ)).2.2
  have W := Walks.list (prog := prog) (w := w) hh it l (ne_l hj hoff) vs.toArray
  refine codeAny_compLoop_tests (CompInv h₀ L m s l C D it vs.length J) ?_ (vs.length + 1)
    ⟨s.heap, s.toks, [], news, oC₀, mC₀, nD, 0, rfl, hst, F, N, hns, hoff, hj, Nat.zero_le _, rfl⟩
  rintro k s' ⟨h', tk, acc, nx, oC, mC, nD', i, rfl, hst', F', N', hns', hoff', hJ, hi, rfl⟩
  have hlst : h'.IsList l vs.toArray := News.isList N' (.tail _ (.tail _ (hJl _ _ _ hJ)))
  have next : ∀ h₁ : Heap, (∀ b o, b ∉ [it] → h'.get? b = some o → h₁.get? b = some o) → Fr h₀ L h₁ m ∧ News h₀ L h₁ ((C, oC) :: (D, listOf acc.toArray nD') :: nx) := fun h₁ hk₁ =>
    ⟨⟨F'.ns.at' fun o e => hk₁ _ o (by simp; exact Ne.symm hLi) e, fun b o e => hk₁ b o (by simp; intro q; rw [q, hit0] at e; cases e) (F'.keep b o e), F'.above⟩, fun p hp => by
      refine ⟨hk₁ _ _ ?_ (N' p hp).1, (N' p hp).2⟩
      simp
      rcases List.mem_cons.mp hp with rfl | hp
      · exact hCi
      · rcases List.mem_cons.mp hp with rfl | hp
        · exact hDi
        · exact (hoff' p hp).2.2⟩
  by_cases hlt : i < vs.length
  · refine W.item i _ _ _ (by simpa using hlt) ⟨hst', hlst⟩ fun v h₁ tk₁ hP hst₁ hk₁ => ?_
    obtain ⟨F₁, N₁⟩ := next h₁ hk₁
    obtain ⟨oi, hoi, hoc, hod⟩ := hst₁.1
    have hnsC : h₁.Ns cenv.locals mC := by rw [hC]; exact hns'.ns (N₁ _ (.head _)).1
    refine wpAny_assign_Name (wpAny_storeName_local hx hnsC (fun h₂ hn₂ hs₂ => ?_) hp)
    rw [hC] at hn₂ hs₂
    obtain ⟨oC₂, es₂, ep₂, hoC₂, hd₂, hk₂, hf₂⟩ := hn₂
    have hC0 := (N₁ _ (.head _)).2
    have F₂ : Fr h₀ L h₂ m := ⟨F₁.ns.sameBut hs₂ hLC, fun b o e => hs₂.extBut b o (fun q => by rw [q, hC0.2] at e; cases e) (F₁.keep b o e), F₁.above⟩
    have N₂ : News h₀ L h₂ ((C, oC₂) :: (it, oi) :: (D, listOf acc.toArray nD') :: nx) := by
      intro p hp
      rcases List.mem_cons.mp hp with rfl | hp
      · exact ⟨hoC₂, hC0⟩
      · rcases List.mem_cons.mp hp with rfl | hp
        · exact ⟨hs₂.extBut _ _ (Ne.symm hCi) hoi, hLi, hit0⟩
        · have hn := N₁ p (.tail _ hp)
          refine ⟨hs₂.extBut _ _ ?_ hn.1, hn.2⟩
          rcases List.mem_cons.mp hp with rfl | hp
          · exact Ne.symm hCD
          · exact (hoff' p hp).1
    have htests := turn i v acc nx oC₂ _ nD' oi h₂ (tk₁ + 1) (by simpa using hP) hJ hoff' ⟨es₂, ep₂, hd₂, hk₂, hf₂⟩ (by simp) F₂ N₂
    refine wpAny_mono htests (fun ok s₃ h₃ => ?_) fun _ _ e => e.elim
    have fin : ∀ {acc'}, (∀ nx', J (i + 1) acc' nx' → True) → ∀ s₅, (∃ h₄ tk₄ nx₄ nD₄, s₅ = { s with heap := h₄, toks := tk₄ } ∧ Fr h₀ L h₄ m ∧ News h₀ L h₄ ((C, oC₂) :: (it, oi) :: (D, listOf acc'.toArray nD₄) :: nx₄) ∧ Off nx₄ C D it ∧ J (i + 1) acc' nx₄) →
        ∃ k, k < vs.length + 1 - i ∧ CompInv h₀ L m s l C D it vs.length J k s₅ := by
      rintro acc' - s₅ ⟨h₄, tk₄, nx₄, nD₄, rfl, F₄, N₄, ho₄, hJ₄⟩
      refine ⟨vs.length + 1 - (i + 1), by omega, h₄, tk₄, acc', nx₄, oC₂, _, nD₄, i + 1, rfl, ⟨oi, (N₄ _ (.tail _ (.head _))).1, hoc, hod⟩, F₄, fun p hp => N₄ p ?_, ⟨es₂, ep₂, hd₂, hk₂, hf₂⟩, ho₄, hJ₄, hlt, rfl⟩
      rcases List.mem_cons.mp hp with rfl | hp
      · exact .head _
      · exact .tail _ (.tail _ hp)
    cases ok with
    | false =>
      simp only [Bool.false_eq_true, if_false] at h₃ ⊢
      obtain ⟨h₄, tk₄, nx₄, rfl, F₄, N₄, ho₄, hJ₄⟩ := h₃
      exact fin (fun _ _ => trivial) _ ⟨h₄, tk₄, nx₄, nD', rfl, F₄, N₄, ho₄, hJ₄⟩
    | true =>
      simp only [if_true] at h₃ ⊢
      refine wpAny_mono h₃ (fun y s₄ h₄ => ?_) fun _ _ e => e.elim
      obtain ⟨h₄, tk₄, nx₄, rfl, F₄, N₄, ho₄, hJ₄⟩ := h₄
      have hD0 := N₄ _ (.tail _ (.tail _ (.head _)))
      have hacc := hJa _ _ _ hJ
      refine wpAny_list_append_plain (l := D) (items := acc.toArray) (hsz := by rw [sizeLine_eq]; simp; omega) ⟨nD', hD0.1⟩ fun h₅ hl₅ hs₅ => ?_
      obtain ⟨nD₅, hl₅⟩ := hl₅
      refine fin (acc' := acc ++ [y]) (fun _ _ => trivial) _ ⟨h₅, tk₄, nx₄, nD₅, rfl, ⟨F₄.ns.sameBut hs₅ (Ne.symm hD0.2.1), fun b o e => hs₅.extBut b o (fun q => by rw [q, hD0.2.2] at e; cases e) (F₄.keep b o e), F₄.above⟩, fun p hp => ?_, ho₄, hJ₄⟩
      rcases List.mem_cons.mp hp with rfl | hp
      · exact ⟨hs₅.extBut _ _ hCD (N₄ _ (.head _)).1, (N₄ _ (.head _)).2⟩
      · rcases List.mem_cons.mp hp with rfl | hp
        · exact ⟨hs₅.extBut _ _ (Ne.symm hDi) (N₄ _ (.tail _ (.head _))).1, (N₄ _ (.tail _ (.head _))).2⟩
        · rcases List.mem_cons.mp hp with rfl | hp
          · exact ⟨by simpa using hl₅, hD0.2⟩
          · have hn := N₄ p (.tail _ (.tail _ (.tail _ hp)))
            exact ⟨hs₅.extBut _ _ (ho₄ p hp).2.1 hn.1, hn.2⟩
  · have hin : i = vs.length := by omega
    subst hin
    refine W.done _ _ _ (by simpa using ⟨hst', hlst⟩) fun h₁ tk₁ hk₁ => ?_
    obtain ⟨F₁, N₁⟩ := next h₁ hk₁
    exact done acc nx oC mC nD' h₁ tk₁ hJ hoff' hns' F₁ N₁

def CompAt (prog : Program) (w : World) (A : Around) (env : Env) (elt : Expr) (x : Str) (px : Pos) (iter : Expr) (ifs : List Expr) (scope : Scope) (cl : List (Str × Addr)) (pos : Pos) (use : Option (Value → Sem Unit)) (Q : Value → Shared → Prop) (E : Value → Shared → Prop) (it : Value) (s₂ : Shared) : Prop :=
  wpAny (model prog w) A (newList []) (fun acc s₃ => wpAny (model prog w) A (newFunctionEnv scope env.globals cl [] env.qual none .none (some env)) (fun cenv s₄ =>
    codeAny (model prog w) A (.compStart (.ListComp elt [⟨.Name x px, iter, ifs, 0⟩] scope pos) 0 it acc { cenv with scope := relabel scope env }) (compPost (model prog w) A E use Q acc cenv.locals) s₄) E s₃) E s₂

theorem comp_start {elt iter : Expr} {x : Str} {px : Pos} {ifs : List Expr} {scope : Scope} {cl : List (Str × Addr)} {pos : Pos} {Q : Value → Shared → Prop}
    (hclos : closureFor scope env = pure cl) (hkind : scope.kind = .function) (hnames : ∀ y ∈ scope.names, y.2 = .local → scope.names.lookup y.1 = some .local) (hs : ∀ x, foldedSetIterable iter env x = pure x)
    (h : wpAny (model prog w) A (eval iter env) (fun xv s₁ => wpAny (model prog w) A (pyIter xv) (fun it s₂ => CompAt prog w A env elt x px iter ifs scope cl pos none Q E it s₂) E s₁) E s) :
    wpAny (model prog w) A (eval (.ListComp elt [⟨.Name x px, iter, ifs, 0⟩] scope pos) env) Q E s := by
  rw [eval_ListComp]
  exact wpAny_comprehension_free (use := none) rfl hs hclos hkind hnames h

theorem comp_core {elt iter : Expr} {x : Str} {px : Pos} {ifs : List Expr} {scope : Scope} {cl : List (Str × Addr)} {pos : Pos} {use : Option (Value → Sem Unit)} {Q : Value → Shared → Prop} {l : Addr} {vs : List Value} {n : Nat}
    (J : Nat → List Value → List (Addr × Obj) → Prop) (hh : A.handled = none) (hcell : ∀ y ∈ scope.names, y.2 ≠ .cell) (hkind : scope.kind = .function) (hx : scope.names.lookup x = some .local) (hlen : vs.length < 1000)
    (F : Fr h₀ L s.heap m) (N : News h₀ L s.heap news) (hJl : ∀ i acc nx, J i acc nx → (l, listOf vs.toArray n) ∈ nx) (hJa : ∀ i acc nx, J i acc nx → acc.length ≤ i) (hj : J 0 [] news)
    (turn : ∀ i v acc nx C oC mC D nD it o h tk, vs[i]? = some v → J i acc nx → Off nx C D it → D = s.heap.objs.size + 1 → (∀ p ∈ news, p.1 < it) → it < D → D < C → NsO oC mC → mC x = some v → Fr h₀ L h m → News h₀ L h ((C, oC) :: (it, o) :: (D, listOf acc.toArray nD) :: nx) →
      CTests prog w A ifs (compEnvC scope cl C env) (fun ok s₃ => if ok = true then wpAny (model prog w) A (eval elt (compEnvC scope cl C env)) (fun y s₄ => CEnd h₀ L m s C oC it o D (listOf acc.toArray nD) (J (i + 1) (acc ++ [y])) s₄) (fun _ _ => False) s₃
        else CEnd h₀ L m s C oC it o D (listOf acc.toArray nD) (J (i + 1) acc) s₃) { s with heap := h, toks := tk })
    (done : ∀ acc nx C oC mC D nD it h tk, J vs.length acc nx → Off nx C D it → D = s.heap.objs.size + 1 → (∀ p ∈ news, p.1 < D) → D < C → NsO oC mC → Fr h₀ L h m → News h₀ L h ((C, oC) :: (D, listOf acc.toArray nD) :: nx) →
      compPost (model prog w) A E use Q (.ref D) C (.ok .next) { s with heap := h, toks := tk }) :
    wpAny (model prog w) A (pyIter (.ref l)) (fun it s₂ => CompAt prog w A env elt x px iter ifs scope cl pos use Q E it s₂) E s := by
  have hls : s.heap.IsList l vs.toArray := News.isList N (hJl _ _ _ hj)
  have hlt : l < s.heap.objs.size := Heap.lt_size (N _ (hJl _ _ _ hj)).1
  refine wpAny_pyIter_list hls ?_
  generalize hit : s.heap.objs.size = it
  have hLlt : L < it := by rw [← hit]; exact F.ns.lt
  have hnew : ∀ p ∈ news, p.1 < it := fun p hp => by rw [← hit]; exact Heap.lt_size (N p hp).1
  have fresh : ∀ a, it ≤ a → h₀.get? a = none := fun a ha => Heap.get?_none_of_le (Nat.le_trans F.above (Nat.le_trans (Nat.le_of_lt hLlt) ha))
  generalize hH1 : s.heap.push { cls := .type "list_iterator", data := .fields #[.ref l, .int 0 0] } = H1
  have F1 : Fr h₀ L H1 m := hH1 ▸ F.push _
  have N1 : News h₀ L H1 news := hH1 ▸ fun p hp => ⟨Heap.get?_push_of_some _ (N p hp).1, (N p hp).2⟩
  have hi1 : H1.IsListIter it l 0 := ⟨_, by rw [← hH1, ← hit]; exact Heap.get?_push_size _ rfl, rfl, rfl⟩
  have hsz1 : H1.objs.size = it + 1 := by rw [← hH1, Heap.size_push, hit]
  unfold CompAt
  refine wpAny_newObj_type (wpAny_newFunctionEnv hcell (by intro y hy; simp at hy) (fun h₁ hns₁ hsb₁ => ?_) hkind) (by show 0 ≤ sizeLine; exact Nat.zero_le _)
  dsimp only at hns₁ hsb₁ ⊢
  rw [hsz1]
  generalize hH2 : H1.push { cls := .type "list", dict := none, data := .seq ([] : List Value).toArray } = H2 at hns₁ hsb₁ ⊢
  have hD2 : H2.get? (it + 1) = some { cls := .type "list", dict := none, data := .seq ([] : List Value).toArray } := by rw [← hH2, ← hsz1]; exact Heap.get?_push_size _ rfl
  have hsz2 : H2.objs.size = it + 2 := by rw [← hH2, Heap.size_push, hsz1]
  rw [hsz2] at hns₁ hsb₁ ⊢
  have old2 : ∀ b o, H1.get? b = some o → H2.get? b = some o := fun b o e => hH2 ▸ Heap.get?_push_of_some _ e
  have old1 : ∀ b o, b < it + 2 → H2.get? b = some o → h₁.get? b = some o := fun b o hb e => hsb₁.extBut b o (Nat.ne_of_lt hb) (Heap.get?_push_of_some _ e)
  have lt1 : ∀ {b o}, H1.get? b = some o → b < it + 2 := fun e => Nat.lt_succ_of_lt (hsz1 ▸ Heap.lt_size e)
  have F₁ : Fr h₀ L h₁ m := ⟨F1.ns.at' fun o e => old1 _ _ (lt1 e) (old2 _ _ e), fun b o e => old1 _ _ (lt1 (F1.keep b o e)) (old2 _ _ (F1.keep b o e)), F1.above⟩
  obtain ⟨oC₁, es₁, ep₁, hoC₁, hd₁, hk₁, hf₁⟩ := hns₁
  have N₁ : News h₀ L h₁ ((it + 2, oC₁) :: (it + 1, listOf ([] : List Value).toArray 0) :: news) := by
    intro p hp
    rcases List.mem_cons.mp hp with rfl | hp
    · exact ⟨hoC₁, Nat.ne_of_gt (nT2 hLlt), fresh _ (nL2 it)⟩
    · rcases List.mem_cons.mp hp with rfl | hp
      · exact ⟨old1 _ _ (n12 it) hD2, Nat.ne_of_gt (nT hLlt), fresh _ (nL1 it)⟩
      · exact ⟨old1 _ _ (lt1 (N1 p hp).1) (old2 _ _ (N1 p hp).1), (N1 p hp).2⟩
  have hst₁ : h₁.IsListIter it l 0 := by
    obtain ⟨o, e, r⟩ := hi1
    exact ⟨o, old1 _ _ (lt1 e) (old2 _ _ e), r⟩
  have hoff : Off news (it + 2) (it + 1) it := fun p hp => ⟨Nat.ne_of_lt (nT2 (hnew p hp)), Nat.ne_of_lt (nT (hnew p hp)), Nat.ne_of_lt (hnew p hp)⟩
  have loop : ∀ s₃ : Shared, s₃ = { s with heap := h₁, toks := s.toks + ([] : List (Str × Value)).length } →
      codeAny (model prog w) A (.compLoop (.ListComp elt [⟨.Name x px, iter, ifs, 0⟩] scope pos) 0 (.ref it) (.ref (it + 1)) (compEnvC scope cl (it + 2) env))
        (compPost (model prog w) A E use Q (.ref (it + 1)) (it + 2)) s₃ := by
    rintro s₃ rfl
    refine comp_loop (cenv := compEnvC scope cl (it + 2) env) J hh (lookup_relabel_local hx) (by simp [compEnvC, relabel, hkind]) rfl hlen (Nat.ne_of_lt (nT2 hLlt)) (Nat.ne_of_gt (n12 it)) (Nat.ne_of_gt (n02 it)) (Nat.ne_of_gt (n01 it)) hJl hJa hj hoff hst₁ (fresh _ (Nat.le_refl _)) (Nat.ne_of_gt hLlt) F₁ N₁ ⟨es₁, ep₁, hd₁, hk₁, hf₁⟩ ?_ ?_
    · intro i v acc nx oC mC nD o h tk hv hJ ho hns hm F N
      exact turn i v acc nx (it + 2) oC mC (it + 1) nD it o h tk hv hJ ho (by rw [hit]) hnew (n01 it) (n12 it) hns hm F N
    · intro acc nx oC mC nD h tk hJ ho hns F N
      exact done acc nx (it + 2) oC mC (it + 1) nD it h tk hJ ho (by rw [hit]) (fun p hp => nT (hnew p hp)) (n12 it) hns F N
  have self := Walks.list (prog := prog) (w := w) hh it l (by have := hnew _ (hJl _ _ _ hj); exact Nat.ne_of_lt this) vs.toArray
  refine codeAny_compStart_list (loop _ rfl) (self.self 0 _ _ _ ⟨hst₁, News.isList N₁ (.tail _ (.tail _ (hJl _ _ _ hj)))⟩ (loop _ rfl))
theorem comp_list {elt iter : Expr} {x : Str} {px : Pos} {ifs : List Expr} {scope : Scope} {cl : List (Str × Addr)} {pos : Pos} {use : Option (Value → Sem Unit)} {Q : Value → Shared → Prop} {l : Addr} {vs : List Value} {n : Nat}
    (J : Nat → List Value → List (Addr × Obj) → Prop) (hh : A.handled = none) (hcell : ∀ y ∈ scope.names, y.2 ≠ .cell) (hkind : scope.kind = .function) (hx : scope.names.lookup x = some .local) (hlen : vs.length < 1000)
    (F : Fr h₀ L s.heap m) (N : News h₀ L s.heap news) (hJl : ∀ i acc nx, J i acc nx → (l, listOf vs.toArray n) ∈ nx) (hJa : ∀ i acc nx, J i acc nx → acc.length ≤ i) (hj : J 0 [] news)
    (turn : ∀ i v acc nx C oC mC D nD it o h tk (R : List Value → Shared → Prop), (∀ acc' s', CEnd h₀ L m s C oC it o D (listOf acc.toArray nD) (J (i + 1) acc') s' → R acc' s') → vs[i]? = some v → J i acc nx → Off nx C D it → (∀ p ∈ news, p.1 < it) → it < D → D < C → NsO oC mC → mC x = some v → Fr h₀ L h m → News h₀ L h ((C, oC) :: (it, o) :: (D, listOf acc.toArray nD) :: nx) →
      CTests prog w A ifs (compEnvC scope cl C env) (fun ok s₃ => if ok = true then wpAny (model prog w) A (eval elt (compEnvC scope cl C env)) (fun y s₄ => R (acc ++ [y]) s₄) (fun _ _ => False) s₃
        else R acc s₃) { s with heap := h, toks := tk })
    (done : ∀ acc nx D nD h tk, J vs.length acc nx → (∀ p ∈ nx, p.1 ≠ D) → (∀ p ∈ news, p.1 < D) → Fr h₀ L h m → News h₀ L h ((D, listOf acc.toArray nD) :: nx) →
      match use with
      | none => Q (.ref D) { s with heap := h, toks := tk }
      | some u => wpAny (model prog w) A (u (.ref D)) (fun _ s' => ∃ h' tk' m' nx', s' = { s with heap := h', toks := tk' } ∧ Fr h₀ L h' m' ∧ News h₀ L h' nx' ∧ (∀ p ∈ (D, listOf acc.toArray nD) :: nx, p ∈ nx' ) ∧ Q .none { s with heap := h', toks := tk' }) E { s with heap := h, toks := tk })
    (huse : use = none) :
    wpAny (model prog w) A (pyIter (.ref l)) (fun it s₂ => CompAt prog w A env elt x px iter ifs scope cl pos use Q E it s₂) E s := by
  subst huse
  refine comp_core J hh hcell hkind hx hlen F N hJl hJa hj (fun i v acc nx C oC mC D nD it o h tk a b c _ => turn i v acc nx C oC mC D nD it o h tk _ (fun _ _ h => h) a b c) fun acc nx C oC mC D nD it h tk hJ ho _ hD hDC hns F N => ?_
  refine ⟨mC, hns.ns (N _ (.head _)).1, fun h' hs' => ?_⟩
  have hC0 := (N _ (.head _)).2
  have hC1 : C ≠ L := hC0.1
  refine done acc nx D nD h' tk hJ (fun p hp => (ho p hp).2.1) hD ⟨F.ns.sameBut hs' (Ne.symm hC1), fun b o e => hs'.extBut b o (fun q => by rw [q, hC0.2] at e; cases e) (F.keep b o e), F.above⟩ fun p hp => ?_
  have hn := N p (.tail _ hp)
  refine ⟨hs'.extBut _ _ ?_ hn.1, hn.2⟩
  rcases List.mem_cons.mp hp with rfl | hp
  · exact Nat.ne_of_lt hDC
  · exact (ho p hp).1
/-- the same where the list goes straight into a local name -/
theorem comp_list_to {elt iter : Expr} {x y : Str} {px py : Pos} {ifs : List Expr} {scope : Scope} {cl : List (Str × Addr)} {pos : Pos} {R₀ : Shared → Prop} {l : Addr} {vs : List Value} {n : Nat}
    (J : Nat → List Value → List (Addr × Obj) → Prop) (hh : A.handled = none) (hcell : ∀ y ∈ scope.names, y.2 ≠ .cell) (hkind : scope.kind = .function) (hx : scope.names.lookup x = some .local) (hlen : vs.length < 1000)
    (hy : env.kindOf y = some .local) (hp : (env.scope.kind == .class || (env.scope.kind == .module && env.locals != env.globals)) = false) (hL : env.locals = L)
    (F : Fr h₀ L s.heap m) (N : News h₀ L s.heap news) (hJl : ∀ i acc nx, J i acc nx → (l, listOf vs.toArray n) ∈ nx) (hJa : ∀ i acc nx, J i acc nx → acc.length ≤ i) (hj : J 0 [] news)
    (turn : ∀ i v acc nx C oC mC D nD it o h tk (R : List Value → Shared → Prop), (∀ acc' s', CEnd h₀ L m s C oC it o D (listOf acc.toArray nD) (J (i + 1) acc') s' → R acc' s') → vs[i]? = some v → J i acc nx → Off nx C D it → D = s.heap.objs.size + 1 → (∀ p ∈ news, p.1 < it) → it < D → D < C → NsO oC mC → mC x = some v → Fr h₀ L h m → News h₀ L h ((C, oC) :: (it, o) :: (D, listOf acc.toArray nD) :: nx) →
      CTests prog w A ifs (compEnvC scope cl C env) (fun ok s₃ => if ok = true then wpAny (model prog w) A (eval elt (compEnvC scope cl C env)) (fun y s₄ => R (acc ++ [y]) s₄) (fun _ _ => False) s₃
        else R acc s₃) { s with heap := h, toks := tk })
    (done : ∀ acc nx D nD h tk, J vs.length acc nx → D = s.heap.objs.size + 1 → (∀ p ∈ nx, p.1 ≠ D) → (∀ p ∈ news, p.1 < D) → Fr h₀ L h (fun z => if z = y then some (.ref D) else m z) → News h₀ L h ((D, listOf acc.toArray nD) :: nx) → R₀ { s with heap := h, toks := tk }) :
    wpAny (model prog w) A (pyIter (.ref l)) (fun it s₂ => CompAt prog w A env elt x px iter ifs scope cl pos (some (assign (.Name y py) env)) (fun _ s' => R₀ s') E it s₂) E s := by
  refine comp_core J hh hcell hkind hx hlen F N hJl hJa hj (fun i v acc nx C oC mC D nD it o h tk => turn i v acc nx C oC mC D nD it o h tk _ (fun _ _ h => h)) fun acc nx C oC mC D nD it h tk hJ ho hDe hD hDC hns F N => ?_
  have hC0 := (N _ (.head _)).2
  have hC1 : C ≠ L := hC0.1
  have hLn : ∀ p ∈ (C, oC) :: (D, listOf acc.toArray nD) :: nx, p.1 ≠ L := fun p hp => (N p hp).2.1
  show wpAny _ A (assign (.Name y py) env (.ref D)) _ _ _
  have hn : h.Ns env.locals m := by rw [hL]; exact F.ns
  refine wpAny_assign_Name (wpAny_storeName_local hy hn (fun h₂ hn₂ hs₂ => ?_) hp)
  rw [hL] at hn₂ hs₂
  have hC2 : h₂.get? C = some oC := hs₂.extBut _ _ hC1 (N _ (.head _)).1
  refine ⟨mC, hns.ns hC2, fun h' hs' => ?_⟩
  have hLh : h₀.get? L = none ∨ ∃ o, h₀.get? L = some o := by cases h₀.get? L with | none => exact .inl rfl | some o => exact .inr ⟨o, rfl⟩
  have hL0 : h₀.get? L = none := Heap.get?_none_of_le F.above
  refine done acc nx D nD h' _ hJ hDe (fun p hp => (ho p hp).2.1) hD ⟨hn₂.sameBut hs' (Ne.symm hC1), fun b o e => hs'.extBut b o (fun q => by rw [q, hC0.2] at e; cases e) (hs₂.extBut b o (fun q => by rw [q, hL0] at e; cases e) (F.keep b o e)), F.above⟩ fun p hp => ?_
  have hn := N p (.tail _ hp)
  refine ⟨hs'.extBut _ _ ?_ (hs₂.extBut _ _ hn.2.1 hn.1), hn.2⟩
  rcases List.mem_cons.mp hp with rfl | hp
  · exact Nat.ne_of_lt hDC
  · exact (ho p hp).1
theorem comp_start_to {elt iter : Expr} {x y : Str} {px py : Pos} {ifs : List Expr} {scope : Scope} {cl : List (Str × Addr)} {pos spos : Pos} {Q : Flow → Shared → Prop}
    (hsw : swapsWith (.ListComp elt [⟨.Name x px, iter, ifs, 0⟩] scope pos) (some (.Name y py)) spos.line env = pure true)
    (hclos : closureFor scope env = pure cl) (hkind : scope.kind = .function) (hnames : ∀ y ∈ scope.names, y.2 = .local → scope.names.lookup y.1 = some .local) (hs : ∀ x, foldedSetIterable iter env x = pure x)
    (h : wpAny (model prog w) A (eval iter env) (fun xv s₁ => wpAny (model prog w) A (pyIter xv) (fun it s₂ => CompAt prog w A env elt x px iter ifs scope cl pos (some (assign (.Name y py) env)) (fun _ s' => Q .next s') E it s₂) E s₁) E s) :
    wpAny (model prog w) A (exec (.Assign [.Name y py] (.ListComp elt [⟨.Name x px, iter, ifs, 0⟩] scope pos) spos) env) Q E s := by
  rw [exec_Assign_Name_used _ _ _ _ hsw]
  refine wpAny_bind (wpAny_standAt (wpAny_bind ?_))
  show wpAny _ A (do let _ ← comprehension (.ListComp elt [⟨.Name x px, iter, ifs, 0⟩] scope pos) scope env _ (newList []) false (eval iter env) (some (assign (.Name y py) env))) _ _ s
  exact wpAny_bind (wpAny_mono (wpAny_comprehension_free (use := some (assign (.Name y py) env)) (Q := fun _ s' => Q .next s') rfl hs hclos hkind hnames h) (fun _ s' hq => wpAny_pure (wpAny_pure hq)) fun _ _ e => e)
end
end Mine
end PartU5

section PartU6
open PySem PySem.W PyProof.Rows PySem.Spec PySem.Calls
set_option linter.unusedVariables false
namespace Mine

def CellAt (nx : List (Addr × Obj)) (c : Addr) (v : Value) : Prop := ∃ o, (c, o) ∈ nx ∧ o.data = .cell (some v)
def CellAny (nx : List (Addr × Obj)) (c : Addr) : Prop := ∃ o v, (c, o) ∈ nx ∧ o.data = Data.cell v
theorem CellAt.any {nx : List (Addr × Obj)} {c : Addr} {v : Value} (h : CellAt nx c v) : CellAny nx c := let ⟨o, h1, h2⟩ := h; ⟨o, _, h1, h2⟩
theorem CellAt.keep {nx nx' : List (Addr × Obj)} {c : Addr} {v : Value} {S : List Addr} (h : CellAt nx c v) (hk : ∀ p ∈ nx, p.1 ∉ S → p ∈ nx') (hc : c ∉ S) : CellAt nx' c v := let ⟨o, h1, h2⟩ := h; ⟨o, hk _ h1 hc, h2⟩
theorem CellAny.keep {nx nx' : List (Addr × Obj)} {c : Addr} {S : List Addr} (h : CellAny nx c) (hk : ∀ p ∈ nx, p.1 ∉ S → p ∈ nx') (hc : c ∉ S) : CellAny nx' c := let ⟨o, v, h1, h2⟩ := h; ⟨o, v, hk _ h1 hc, h2⟩

/-- the names that stand under x -/
def bel (ss : List Str) (x : Str) : List Str := ss.filter fun low => rB sLt bLt low x
theorem bel_len (ss : List Str) (x : Str) : (bel ss x).length = dep sLt bLt ss x := by unfold bel dep; rw [List.countP_eq_length_filter]

theorem va_cons {k' x : Str} {v' : Value} {kvs : List (Str × Value)} : valueAt ((k', v') :: kvs) x = if k' = x then some v' else valueAt kvs x := by
  unfold valueAt
  rw [List.find?_cons]
  by_cases e : k' = x
  · simp [e]
  · simp [e]
theorem va_map {kvs : List (Str × Value)} {k x : Str} {v : Value} : valueAt (kvs.map (fun kv => if kv.1 = k then (kv.1, v) else kv)) x = if x = k then (if kvs.any (fun kv => kv.1 = k) then some v else none) else valueAt kvs x := by
  induction kvs with
  | nil => simp [valueAt]
  | cons kv kvs ih =>
    obtain ⟨k', v'⟩ := kv
    rw [List.map_cons]
    by_cases e : k' = k
    · subst e
      rw [if_pos rfl, va_cons, va_cons, ih]
      by_cases e2 : x = k'
      · subst e2; simp
      · rw [if_neg (Ne.symm e2), if_neg e2, if_neg e2, if_neg (Ne.symm e2)]
    · rw [if_neg e, va_cons, va_cons, ih]
      by_cases e2 : x = k
      · subst e2; rw [if_neg e, if_pos rfl, if_pos rfl, List.any_cons]; dsimp only; rw [decide_eq_false e, Bool.false_or]
      · rw [if_neg e2, if_neg e2]
theorem va_snoc {kvs : List (Str × Value)} {k x : Str} {v : Value} (h : kvs.any (fun kv => kv.1 = k) ≠ true) : valueAt (kvs ++ [(k, v)]) x = if x = k then some v else valueAt kvs x := by
  induction kvs with
  | nil => rw [List.nil_append, va_cons]; by_cases e : x = k
           · simp [e]
           · rw [if_neg (Ne.symm e), if_neg e]
  | cons kv kvs ih =>
    obtain ⟨k', v'⟩ := kv
    have h1 : k' ≠ k := fun q => h (by simp [q])
    have h2 : kvs.any (fun kv => kv.1 = k) ≠ true := fun q => h (by rw [List.any_cons, q, Bool.or_true])
    rw [List.cons_append, va_cons, ih h2, va_cons]
    by_cases e2 : x = k
    · subst e2; rw [if_neg h1, if_pos rfl, if_pos rfl]
    · rw [if_neg e2, if_neg e2]
theorem valueAt_stored {kvs : List (Str × Value)} {k x : Str} {v : Value} : valueAt (stored kvs k v) x = if x = k then some v else valueAt kvs x := by
  unfold stored
  by_cases e : kvs.any (fun kv => kv.1 = k) = true
  · rw [if_pos e, va_map, if_pos e]
  · rw [if_neg e, va_snoc e]

section
variable (prog : Program) (w : World)
def BelAt (nx : List (Addr × Obj)) (DB : Addr) (ss xs : List Str) : Prop :=
  ∃ oB kvs, (DB, oB) ∈ nx ∧ oB.IsDictOf (PySem.strKind prog w) kvs ∧ kvs.length ≤ xs.length ∧
    ∀ x ∈ xs, ∃ r n vs, valueAt kvs x = some (.ref r) ∧ DB < r ∧ StrsAre vs (bel ss x) ∧ (r, listOf vs.toArray n) ∈ nx
def HgtAt (nx : List (Addr × Obj)) (DH : Addr) (H : Str → Nat) (xs : List Str) : Prop :=
  ∃ oH kvs, (DH, oH) ∈ nx ∧ oH.IsDictOf (PySem.strKind prog w) kvs ∧ kvs.length ≤ xs.length ∧ ∀ x ∈ xs, ∃ t, valueAt kvs x = some (.int (H x : Nat) t)
end
section
variable {prog : Program} {w : World}
theorem BelAt.keep {nx nx' : List (Addr × Obj)} {DB : Addr} {ss xs : List Str} {S : List Addr} (h : BelAt prog w nx DB ss xs) (hk : ∀ p ∈ nx, p.1 ∉ S → p ∈ nx') (hB : DB ∉ S) (hS : ∀ r, DB < r → (∃ o, (r, o) ∈ nx) → r ∉ S) : BelAt prog w nx' DB ss xs := by
  obtain ⟨oB, kvs, h1, h2, h3, h4⟩ := h
  refine ⟨oB, kvs, hk _ h1 hB, h2, h3, fun x hx => ?_⟩
  obtain ⟨r, n, vs, a1, a2, a3, a4⟩ := h4 x hx
  exact ⟨r, n, vs, a1, a2, a3, hk _ a4 (hS r a2 ⟨_, a4⟩)⟩
theorem HgtAt.keep {nx nx' : List (Addr × Obj)} {DH : Addr} {H : Str → Nat} {xs : List Str} {S : List Addr} (h : HgtAt prog w nx DH H xs) (hk : ∀ p ∈ nx, p.1 ∉ S → p ∈ nx') (hB : DH ∉ S) : HgtAt prog w nx' DH H xs := by
  obtain ⟨oB, kvs, h1, h2, h3, h4⟩ := h
  exact ⟨oB, kvs, hk _ h1 hB, h2, h3, h4⟩
end
end Mine
end PartU6

section PartU7
open PySem PySem.W PyProof.Rows PySem.Spec PySem.Calls
set_option linter.unusedVariables false
namespace Mine
section
variable {L1 : Nat} {news nx nx' : List (Addr × Obj)} {T T' : Obj → Prop} {b n l h z : Option Value}

/-- a table of code objects -/
def IsTab (o : Obj) : Prop := ∃ ps, o = tabObj ps
/-- the ledger within _law_due: the caller's part stands below L1 (177, the lambda's table, may change), and five cells behind L1 -/
structure Due (news : List (Addr × Obj)) (L1 : Nat) (nx : List (Addr × Obj)) (T : Obj → Prop) (b n l h z : Option Value) : Prop where
  low : ∀ p ∈ news, p.1 < L1
  at177 : 177 < L1
  old : ∀ p ∈ news, p.1 ≠ 177 → p ∈ nx
  tb : ∃ o, (177, o) ∈ nx ∧ T o
  cb : ∃ o, (L1 + 1, o) ∈ nx ∧ o.data = .cell b
  cn : ∃ o, (L1 + 1 + 1, o) ∈ nx ∧ o.data = .cell n
  cl : ∃ o, (L1 + 1 + 1 + 1, o) ∈ nx ∧ o.data = .cell l
  ch : ∃ o, (L1 + 1 + 1 + 1 + 1, o) ∈ nx ∧ o.data = .cell h
  cz : ∃ o, (L1 + 1 + 1 + 1 + 1 + 1, o) ∈ nx ∧ o.data = .cell z

theorem neN {a b : Nat} (h : a < b) : ¬ a = b := Nat.ne_of_lt h
theorem Due.keep (x : Due news L1 nx T b n l h z) {S : List Addr} (hS : ∀ a ∈ S, L1 + 5 < a) (hk : ∀ p ∈ nx, p.1 ∉ S → p ∈ nx') : Due news L1 nx' T b n l h z := by
  have g : ∀ c : Nat, c ≤ L1 + 5 → c ∉ S := fun c hc hm => by have := hS c hm; exact absurd (Nat.lt_of_lt_of_le this hc) (Nat.lt_irrefl _)
  obtain ⟨low, at177, old, ⟨o0, m0, d0⟩, ⟨o1, m1, d1⟩, ⟨o2, m2, d2⟩, ⟨o3, m3, d3⟩, ⟨o4, m4, d4⟩, ⟨o5, m5, d5⟩⟩ := x
  exact ⟨low, at177, fun p hp hn => hk p (old p hp hn) (g _ (Nat.le_of_lt (Nat.lt_of_lt_of_le (low p hp) (Nat.le_add_right _ _)))), ⟨o0, hk _ m0 (g _ (by omega)), d0⟩,
    ⟨o1, hk _ m1 (g _ (by omega)), d1⟩, ⟨o2, hk _ m2 (g _ (by omega)), d2⟩, ⟨o3, hk _ m3 (g _ (by omega)), d3⟩, ⟨o4, hk _ m4 (g _ (by omega)), d4⟩, ⟨o5, hk _ m5 (g _ (by omega)), d5⟩⟩
theorem Due.cons (x : Due news L1 nx T b n l h z) {p : Addr × Obj} : Due news L1 (p :: nx) T b n l h z := x.keep (S := []) (fun a ha => nomatch ha) fun p hp _ => .tail _ hp
theorem Due.but (x : Due news L1 nx T b n l h z) {a : Addr} (ha : L1 + 5 < a) : Due news L1 (but a nx) T b n l h z := x.keep (S := [a]) (by simpa using ha) fun p hp q => mem_but.mpr ⟨hp, by simpa using q⟩
theorem Due.upd (x : Due news L1 nx T b n l h z) {a : Addr} {o : Obj} (ha : L1 + 5 < a) : Due news L1 ((a, o) :: Mine.but a nx) T b n l h z := (x.but ha).cons
theorem Due.setT (x : Due news L1 nx T b n l h z) {o : Obj} (hd : T' o) : Due news L1 ((177, o) :: Mine.but 177 nx) T' b n l h z := by
  obtain ⟨low, at177, old, ⟨o0, m0, d0⟩, ⟨o1, m1, d1⟩, ⟨o2, m2, d2⟩, ⟨o3, m3, d3⟩, ⟨o4, m4, d4⟩, ⟨o5, m5, d5⟩⟩ := x
  have g' : ∀ {c : Nat} {o' : Obj}, (c, o') ∈ nx → c ≠ 177 → ((c, o') : Addr × Obj) ∈ ((177, o) :: Mine.but 177 nx) := fun hm hc => .tail _ (mem_but.mpr ⟨hm, hc⟩)
  exact ⟨low, at177, fun p hp hn => g' (old p hp hn) hn, ⟨o, .head _, hd⟩, ⟨o1, g' m1 (by omega), d1⟩, ⟨o2, g' m2 (by omega), d2⟩, ⟨o3, g' m3 (by omega), d3⟩, ⟨o4, g' m4 (by omega), d4⟩, ⟨o5, g' m5 (by omega), d5⟩⟩
theorem Due.setB (x : Due news L1 nx T b n l h z) {o : Obj} {v : Option Value} (hd : o.data = .cell v) : Due news L1 ((L1 + 1, o) :: Mine.but (L1 + 1) nx) T v n l h z := by
  obtain ⟨low, at177, old, ⟨o0, m0, d0⟩, ⟨o1, m1, d1⟩, ⟨o2, m2, d2⟩, ⟨o3, m3, d3⟩, ⟨o4, m4, d4⟩, ⟨o5, m5, d5⟩⟩ := x
  have g' : ∀ {c : Nat} {o' : Obj}, (c, o') ∈ nx → c ≠ L1 + 1 → ((c, o') : Addr × Obj) ∈ ((L1 + 1, o) :: Mine.but (L1 + 1) nx) := fun hm hc => .tail _ (mem_but.mpr ⟨hm, hc⟩)
  exact ⟨low, at177, fun p hp hn => g' (old p hp hn) (neN (Nat.lt_trans (low p hp) (by omega))), ⟨o0, g' m0 (by omega), d0⟩, ⟨o, .head _, hd⟩, ⟨o2, g' m2 (by omega), d2⟩, ⟨o3, g' m3 (by omega), d3⟩, ⟨o4, g' m4 (by omega), d4⟩, ⟨o5, g' m5 (by omega), d5⟩⟩
theorem Due.setN (x : Due news L1 nx T b n l h z) {o : Obj} {v : Option Value} (hd : o.data = .cell v) : Due news L1 ((L1 + 1 + 1, o) :: Mine.but (L1 + 1 + 1) nx) T b v l h z := by
  obtain ⟨low, at177, old, ⟨o0, m0, d0⟩, ⟨o1, m1, d1⟩, ⟨o2, m2, d2⟩, ⟨o3, m3, d3⟩, ⟨o4, m4, d4⟩, ⟨o5, m5, d5⟩⟩ := x
  have g' : ∀ {c : Nat} {o' : Obj}, (c, o') ∈ nx → c ≠ L1 + 1 + 1 → ((c, o') : Addr × Obj) ∈ ((L1 + 1 + 1, o) :: Mine.but (L1 + 1 + 1) nx) := fun hm hc => .tail _ (mem_but.mpr ⟨hm, hc⟩)
  exact ⟨low, at177, fun p hp hn => g' (old p hp hn) (neN (Nat.lt_trans (low p hp) (by omega))), ⟨o0, g' m0 (by omega), d0⟩, ⟨o1, g' m1 (by omega), d1⟩, ⟨o, .head _, hd⟩, ⟨o3, g' m3 (by omega), d3⟩, ⟨o4, g' m4 (by omega), d4⟩, ⟨o5, g' m5 (by omega), d5⟩⟩
theorem Due.setL (x : Due news L1 nx T b n l h z) {o : Obj} {v : Option Value} (hd : o.data = .cell v) : Due news L1 ((L1 + 1 + 1 + 1, o) :: Mine.but (L1 + 1 + 1 + 1) nx) T b n v h z := by
  obtain ⟨low, at177, old, ⟨o0, m0, d0⟩, ⟨o1, m1, d1⟩, ⟨o2, m2, d2⟩, ⟨o3, m3, d3⟩, ⟨o4, m4, d4⟩, ⟨o5, m5, d5⟩⟩ := x
  have g' : ∀ {c : Nat} {o' : Obj}, (c, o') ∈ nx → c ≠ L1 + 1 + 1 + 1 → ((c, o') : Addr × Obj) ∈ ((L1 + 1 + 1 + 1, o) :: Mine.but (L1 + 1 + 1 + 1) nx) := fun hm hc => .tail _ (mem_but.mpr ⟨hm, hc⟩)
  exact ⟨low, at177, fun p hp hn => g' (old p hp hn) (neN (Nat.lt_trans (low p hp) (by omega))), ⟨o0, g' m0 (by omega), d0⟩, ⟨o1, g' m1 (by omega), d1⟩, ⟨o2, g' m2 (by omega), d2⟩, ⟨o, .head _, hd⟩, ⟨o4, g' m4 (by omega), d4⟩, ⟨o5, g' m5 (by omega), d5⟩⟩
theorem Due.setH (x : Due news L1 nx T b n l h z) {o : Obj} {v : Option Value} (hd : o.data = .cell v) : Due news L1 ((L1 + 1 + 1 + 1 + 1, o) :: Mine.but (L1 + 1 + 1 + 1 + 1) nx) T b n l v z := by
  obtain ⟨low, at177, old, ⟨o0, m0, d0⟩, ⟨o1, m1, d1⟩, ⟨o2, m2, d2⟩, ⟨o3, m3, d3⟩, ⟨o4, m4, d4⟩, ⟨o5, m5, d5⟩⟩ := x
  have g' : ∀ {c : Nat} {o' : Obj}, (c, o') ∈ nx → c ≠ L1 + 1 + 1 + 1 + 1 → ((c, o') : Addr × Obj) ∈ ((L1 + 1 + 1 + 1 + 1, o) :: Mine.but (L1 + 1 + 1 + 1 + 1) nx) := fun hm hc => .tail _ (mem_but.mpr ⟨hm, hc⟩)
  exact ⟨low, at177, fun p hp hn => g' (old p hp hn) (neN (Nat.lt_trans (low p hp) (by omega))), ⟨o0, g' m0 (by omega), d0⟩, ⟨o1, g' m1 (by omega), d1⟩, ⟨o2, g' m2 (by omega), d2⟩, ⟨o3, g' m3 (by omega), d3⟩, ⟨o, .head _, hd⟩, ⟨o5, g' m5 (by omega), d5⟩⟩
theorem Due.setZ (x : Due news L1 nx T b n l h z) {o : Obj} {v : Option Value} (hd : o.data = .cell v) : Due news L1 ((L1 + 1 + 1 + 1 + 1 + 1, o) :: Mine.but (L1 + 1 + 1 + 1 + 1 + 1) nx) T b n l h v := by
  obtain ⟨low, at177, old, ⟨o0, m0, d0⟩, ⟨o1, m1, d1⟩, ⟨o2, m2, d2⟩, ⟨o3, m3, d3⟩, ⟨o4, m4, d4⟩, ⟨o5, m5, d5⟩⟩ := x
  have g' : ∀ {c : Nat} {o' : Obj}, (c, o') ∈ nx → c ≠ L1 + 1 + 1 + 1 + 1 + 1 → ((c, o') : Addr × Obj) ∈ ((L1 + 1 + 1 + 1 + 1 + 1, o) :: Mine.but (L1 + 1 + 1 + 1 + 1 + 1) nx) := fun hm hc => .tail _ (mem_but.mpr ⟨hm, hc⟩)
  exact ⟨low, at177, fun p hp hn => g' (old p hp hn) (neN (Nat.lt_trans (low p hp) (by omega))), ⟨o0, g' m0 (by omega), d0⟩, ⟨o1, g' m1 (by omega), d1⟩, ⟨o2, g' m2 (by omega), d2⟩, ⟨o3, g' m3 (by omega), d3⟩, ⟨o4, g' m4 (by omega), d4⟩, ⟨o, .head _, hd⟩⟩
end

section
variable {M : Model} {A : Around} {E : Value → Shared → Prop} {s : Shared} {h₀ : Heap} {L a : Addr} {m : Str → Option Value} {cn : Str} {cs : Scope} {ccd : Value} {cl : List (Str × Addr)}
  {x : Str} {v : Value} {Q : Unit → Shared → Prop} {nx : List (Addr × Obj)} {c : Addr} {o : Obj} {v₀ : Option Value}
/-- a cell of the frame is set, whatever the ledger -/
theorem storeCell_K (F : Fr h₀ L s.heap m) (N : News h₀ L s.heap nx) (hc : cl.lookup x = some c) (hm : ∃ o, (c, o) ∈ nx ∧ o.data = .cell v₀)
    (h : ∀ h' o', Fr h₀ L h' m → News h₀ L h' ((c, o') :: but c nx) → o'.data = .cell (some v) → Q () { s with heap := h' })
    (hk : cs.kind = .function := by rfl) (hx : (envX cn cs L a ccd cl).kindOf x = some .cell := by rfl) : wpAny M A (storeName (envX cn cs L a ccd cl) x v) Q E s := by
  obtain ⟨o, hm, hd⟩ := hm
  exact storeX_C F (news_front N hm) hc (UpdF.head but_ne) hd h hk hx
end

section
variable {M : Model} {A : Around} {E : Value → Shared → Prop} {s : Shared} {h₀ : Heap} {L a : Addr} {m : Str → Option Value} {cn : Str} {cs : Scope} {ccd : Value} {cl : List (Str × Addr)}
  {x : Str} {v : Value} {Q : Unit → Shared → Prop} {nx : List (Addr × Obj)} {c it : Addr} {oi : Obj} {v₀ : Option Value}
theorem news_it {h : Heap} {o : Obj} (N : News h₀ L h ((it, oi) :: nx)) (hm : (c, o) ∈ nx) : News h₀ L h ((it, oi) :: (c, o) :: but c nx) := news_sub N fun p hp => by
  rcases List.mem_cons.mp hp with rfl | hp
  · exact .head _
  · rcases List.mem_cons.mp hp with rfl | hp
    · exact .tail _ hm
    · exact .tail _ (mem_but.mp hp).1
theorem storeCell_I (F : Fr h₀ L s.heap m) (N : News h₀ L s.heap ((it, oi) :: nx)) (hit : ∀ p ∈ nx, p.1 ≠ it) (hc : cl.lookup x = some c) (hm : ∃ o, (c, o) ∈ nx ∧ o.data = .cell v₀)
    (h : ∀ h' o', Fr h₀ L h' m → News h₀ L h' ((it, oi) :: (c, o') :: but c nx) → o'.data = .cell (some v) → Q () { s with heap := h' })
    (hk : cs.kind = .function := by rfl) (hx : (envX cn cs L a ccd cl).kindOf x = some .cell := by rfl) : wpAny M A (storeName (envX cn cs L a ccd cl) x v) Q E s := by
  obtain ⟨o, hm, hd⟩ := hm
  exact storeX_C F (news_it N hm) hc (UpdF.tail (Ne.symm (hit _ hm)) (UpdF.head but_ne)) hd h hk hx
end
section
variable {prog : Program} {w : World} {A : Around} {E : Value → Shared → Prop} {s : Shared} {h₀ : Heap} {L d it : Addr} {m : Str → Option Value} {nx : List (Addr × Obj)} {oi o : Obj} {kvs : List (Str × Value)} {k : Str} {t : Tok} {v : Value}
theorem dict_set_I {Q : Unit → Shared → Prop} (F : Fr h₀ L s.heap m) (N : News h₀ L s.heap ((it, oi) :: nx)) (hit : ∀ p ∈ nx, p.1 ≠ it) (hm : (d, o) ∈ nx) (hd : o.IsDictOf (PySem.strKind prog w) kvs) (hsz : kvs.length ≤ 100)
    (h : ∀ h' o', Fr h₀ L h' m → News h₀ L h' ((it, oi) :: (d, o') :: but d nx) → o'.IsDictOf (PySem.strKind prog w) (stored kvs k v) → Q () { s with heap := h', toks := s.toks + 1 }) : wpAny (model prog w) A (setItem (.ref d) (.str k t) v) Q E s :=
  kda_set (knd := PySem.strKind _ _) F (news_it N hm) (UpdF.tail (Ne.symm (hit _ hm)) (UpdF.head but_ne)) hd (strKind_is _ _ _ _) (by rw [sizeLine_eq]; omega) h
theorem BelAt.cons {DB : Addr} {ss xs : List Str} {p : Addr × Obj} (h : BelAt prog w nx DB ss xs) : BelAt prog w (p :: nx) DB ss xs := h.keep (S := []) (fun p hp _ => .tail _ hp) (by simp) (by simp)
theorem HgtAt.cons {DH : Addr} {H : Str → Nat} {xs : List Str} {p : Addr × Obj} (h : HgtAt prog w nx DH H xs) : HgtAt prog w (p :: nx) DH H xs := h.keep (S := []) (fun p hp _ => .tail _ hp) (by simp)
theorem BelAt.set {DB : Addr} {ss xs : List Str} {c : Addr} {o' : Obj} (h : BelAt prog w nx DB ss xs) (hc : c < DB) : BelAt prog w ((c, o') :: but c nx) DB ss xs :=
  h.keep (S := [c]) (fun p hp q => .tail _ (mem_but.mpr ⟨hp, by simpa using q⟩)) (by simp; exact Nat.ne_of_gt hc) fun r hr _ => by simp; exact Nat.ne_of_gt (Nat.lt_trans hc hr)
theorem HgtAt.set {DH : Addr} {H : Str → Nat} {xs : List Str} {c : Addr} {o' : Obj} (h : HgtAt prog w nx DH H xs) (hc : c ≠ DH) : HgtAt prog w ((c, o') :: but c nx) DH H xs :=
  h.keep (S := [c]) (fun p hp q => .tail _ (mem_but.mpr ⟨hp, by simpa using q⟩)) (by simp; exact Ne.symm hc)
theorem off_set {P : Obj → Prop} {c : Addr} {o' : Obj} (hit : ∀ p ∈ nx, p.1 ≠ it) (hm : ∃ o, (c, o) ∈ nx ∧ P o) : ∀ p ∈ (c, o') :: but c nx, p.1 ≠ it := fun p hp => by
  obtain ⟨o, hm, _⟩ := hm
  rcases List.mem_cons.mp hp with rfl | hp
  · exact hit (c, o) hm
  · exact hit p (mem_but.mp hp).1
theorem BelAt.put {DB r : Addr} {ss xs : List Str} {x : Str} {o' : Obj} {n : Nat} {vs : List Value} {kvs : List (Str × Value)} (hd : o'.IsDictOf (PySem.strKind prog w) (stored kvs x (.ref r))) (hl : kvs.length ≤ xs.length)
    (hv : ∀ y ∈ xs, ∃ r n vs, valueAt kvs y = some (.ref r) ∧ DB < r ∧ StrsAre vs (bel ss y) ∧ (r, listOf vs.toArray n) ∈ nx) (hr : DB < r) (hvs : StrsAre vs (bel ss x)) :
    BelAt prog w ((DB, o') :: but DB ((r, listOf vs.toArray n) :: nx)) DB ss (xs ++ [x]) := by
  refine ⟨o', _, .head _, hd, ?_, fun y hy => ?_⟩
  · have := stored_length_le kvs x (.ref r); rw [List.length_append, List.length_singleton]; omega
  · rw [valueAt_stored]
    by_cases e : y = x
    · subst e
      exact ⟨r, n, vs, if_pos rfl, hr, hvs, .tail _ (mem_but.mpr ⟨.head _, Nat.ne_of_gt hr⟩)⟩
    · rw [if_neg e]
      rcases List.mem_append.mp hy with hy | hy
      · obtain ⟨r', n', vs', a1, a2, a3, a4⟩ := hv y hy
        exact ⟨r', n', vs', a1, a2, a3, .tail _ (mem_but.mpr ⟨.tail _ a4, Nat.ne_of_gt a2⟩)⟩
      · exact (e (List.mem_singleton.mp hy)).elim
theorem HgtAt.put {DH : Addr} {H : Str → Nat} {xs : List Str} {x : Str} {o' : Obj} {t : Tok} {kvs : List (Str × Value)} (hd : o'.IsDictOf (PySem.strKind prog w) (stored kvs x (.int (H x : Nat) t))) (hl : kvs.length ≤ xs.length)
    (hv : ∀ y ∈ xs, ∃ t, valueAt kvs y = some (.int (H y : Nat) t)) : HgtAt prog w ((DH, o') :: but DH nx) DH H (xs ++ [x]) := by
  refine ⟨o', _, .head _, hd, ?_, fun y hy => ?_⟩
  · have := stored_length_le kvs x (.int (H x : Nat) t); rw [List.length_append, List.length_singleton]; omega
  · rw [valueAt_stored]
    by_cases e : y = x
    · subst e; exact ⟨t, if_pos rfl⟩
    · rw [if_neg e]
      rcases List.mem_append.mp hy with hy | hy
      · exact hv y hy
      · exact (e (List.mem_singleton.mp hy)).elim
end

theorem ss_snoc : ∀ {vs : List Value} {ys : List Str} {y : Str} {t : Tok}, StrsAre vs ys → StrsAre (vs ++ [.str y t]) (ys ++ [y])
  | _, _, _, _, .nil => .cons _ _ .nil
  | _, _, _, _, .cons y' t' h => .cons y' t' (ss_snoc h)
theorem filt_yes {acc : List Value} {ss : List Str} {p : Str → Bool} {j : Nat} {y : Str} {t : Tok} (h : StrsAre acc ((ss.take j).filter p)) (hj : ss[j]? = some y) (hp : p y = true) : StrsAre (acc ++ [.str y t]) ((ss.take (j + 1)).filter p) := by
  rw [List.take_add_one, hj, Option.toList_some, List.filter_append, List.filter_cons, if_pos hp, List.filter_nil]
  exact ss_snoc h
theorem filt_no {acc : List Value} {ss : List Str} {p : Str → Bool} {j : Nat} {y : Str} (h : StrsAre acc ((ss.take j).filter p)) (hj : ss[j]? = some y) (hp : p y = false) : StrsAre acc ((ss.take (j + 1)).filter p) := by
  rw [List.take_add_one, hj, Option.toList_some, List.filter_append, List.filter_cons, if_neg (by rw [hp]; exact Bool.false_ne_true), List.filter_nil, List.append_nil]
  exact h

theorem news_swap {h₀ h : Heap} {L : Addr} {a b : Addr × Obj} {nx : List (Addr × Obj)} (N : News h₀ L h (a :: b :: nx)) : News h₀ L h (b :: a :: nx) := news_sub N fun p hp => by
  rcases List.mem_cons.mp hp with rfl | hp
  · exact .tail _ (.head _)
  · rcases List.mem_cons.mp hp with rfl | hp
    · exact .head _
    · exact .tail _ (.tail _ hp)
theorem off_cons {it : Addr} {p : Addr × Obj} {nx : List (Addr × Obj)} (hit : ∀ p ∈ nx, p.1 ≠ it) (hp : it < p.1) : ∀ q ∈ p :: nx, q.1 ≠ it := fun q hq => by
  rcases List.mem_cons.mp hq with rfl | hq
  · exact Nat.ne_of_gt hp
  · exact hit q hq

theorem strs_of : ∀ {vs : List Value}, (∀ v ∈ vs, ∃ x t, v = Value.str x t) → StrsAre vs (vs.map PyProof.Rows.strOf)
  | [], _ => .nil
  | v :: vs, h => by
    obtain ⟨x, t, rfl⟩ := h v (.head _)
    exact .cons x t (strs_of fun v hv => h v (.tail _ hv))
theorem zip_key {f : Value → Int} : ∀ {vs : List Value} {p : Int × Value}, p ∈ (vs.map f).zip vs → p.1 = f p.2 ∧ p.2 ∈ vs
  | [], p, h => nomatch h
  | v :: vs, p, h => by
    rw [List.map_cons, List.zip_cons_cons] at h
    rcases List.mem_cons.mp h with rfl | h
    · exact ⟨rfl, .head _⟩
    · exact ⟨(zip_key h).1, .tail _ (zip_key h).2⟩
theorem zip_snd {f : Value → Int} : ∀ {vs : List Value}, ((vs.map f).zip vs).map Prod.snd = vs
  | [] => rfl
  | v :: vs => by rw [List.map_cons, List.zip_cons_cons, List.map_cons, zip_snd]
/-- what sorted by falling length gives -/
theorem ksk_strs {vn out : List Value} {ss : List Str} (hs : StrsAre vn ss) (h : KskOut false (ss.map fun x => -(x.length : Int)) vn out) :
    ∃ ss2, StrsAre out ss2 ∧ ss2.Perm ss ∧ ss2.Pairwise (fun a b => b.length ≤ a.length) := by
  have e : (ss.map fun x => -(x.length : Int)) = vn.map (fun v => -((PyProof.Rows.strOf v).length : Int)) := by rw [← hs.strs, List.map_map]; rfl
  rw [e] at h
  obtain ⟨ps, hp, ho, hw⟩ := h
  have hpo : out.Perm vn := by rw [ho, ← zip_snd (f := fun v => -((PyProof.Rows.strOf v).length : Int)) (vs := vn)]; exact hp.map _
  refine ⟨out.map PyProof.Rows.strOf, strs_of fun v hv => hs.all v (hpo.mem_iff.mp hv), ?_, ?_⟩
  · have := hpo.map PyProof.Rows.strOf
    rw [hs.strs] at this
    exact this
  · rw [ho, List.map_map, List.pairwise_map]
    refine hw.imp_of_mem fun {p q} hp' hq' hpq => ?_
    have h1 := (zip_key (hp.mem_iff.mp hp')).1
    have h2 := (zip_key (hp.mem_iff.mp hq')).1
    simp only [Bool.false_eq_true, if_false] at hpq
    rw [h1, h2] at hpq
    simp only [Function.comp]
    omega

/-- H is right at x: one more than the highest above x -/
def HEq1 (ss : List Str) (H : Str → Nat) (x : Str) : Prop :=
  1 ≤ H x ∧ (∀ one ∈ ss, rB sLt bLt x one = true → H one < H x) ∧ (H x = 1 ∨ ∃ one ∈ ss, rB sLt bLt x one = true ∧ H one + 1 = H x)

section
variable {prog : Program} {w : World} {A : Around} {E : Value → Shared → Prop} {s : Shared}
theorem in_b {l : Addr} {vs : List Value} {ys : List Str} {k : Str} {t : Tok} {b : Bool} {Q : Value → Shared → Prop} (hl : s.heap.IsList l vs.toArray) (hi : StrsAre vs ys) (hb : ys.any (· == k) = b)
    (h : Q (.bool b) s) : wpAny (model prog w) A (compareOp .In (.str k t) (.ref l)) Q E s := in_list_strs hl hi (by rw [hb]; exact h)
end
theorem any_bel {ss : List Str} {x y : Str} (hx : x ∈ ss) : (bel ss y).any (· == x) = rB sLt bLt x y := by
  rw [Bool.eq_iff_iff, List.any_eq_true]
  constructor
  · rintro ⟨z, hz, e⟩
    have : z = x := by simpa using e
    subst this
    exact (List.mem_filter.mp hz).2
  · intro h
    exact ⟨x, List.mem_filter.mpr ⟨hx, h⟩, by simp⟩
theorem ii_snoc {n : Int} {t : Tok} {vs : List Value} {ns : List Int} (h : IntsAre vs ns) : IntsAre (vs ++ [.int n t]) (ns ++ [n]) := ksk_snoc h
theorem ints_yes {acc : List Value} {ss : List Str} {p : Str → Bool} {H : Str → Nat} {j : Nat} {y : Str} {t : Tok} (h : IntsAre acc (((ss.take j).filter p).map fun y => (H y : Int))) (hj : ss[j]? = some y) (hp : p y = true) :
    IntsAre (acc ++ [.int (H y : Nat) t]) (((ss.take (j + 1)).filter p).map fun y => (H y : Int)) := by
  rw [List.take_add_one, hj, Option.toList_some, List.filter_append, List.filter_cons, if_pos hp, List.filter_nil, List.map_append]
  exact ii_snoc h
theorem ints_no {acc : List Value} {ss : List Str} {p : Str → Bool} {H : Str → Nat} {j : Nat} {y : Str} (h : IntsAre acc (((ss.take j).filter p).map fun y => (H y : Int))) (hj : ss[j]? = some y) (hp : p y = false) :
    IntsAre acc (((ss.take (j + 1)).filter p).map fun y => (H y : Int)) := by
  rw [List.take_add_one, hj, Option.toList_some, List.filter_append, List.filter_cons, if_neg (by rw [hp]; exact Bool.false_ne_true), List.filter_nil, List.append_nil]
  exact h
/-- what stands above x is longer -/
theorem rB_len {x y : Str} (hx : NoBrace x) (hy : NoBrace y) (h : rB sLt bLt x y = true) : x.length < y.length := by
  obtain ⟨c, r, q, _⟩ := (rr_iff hx hy).mp (rB_iff.mp h)
  rw [← str_len, ← str_len, q, List.length_append, List.length_cons]
  omega
/-- in a list of falling length, what is longer stands ahead -/
theorem desc_before {l : List Str} (h : l.Pairwise (fun a b => b.length ≤ a.length)) {i : Nat} {x y : Str} (hx : l[i]? = some x) (hy : y ∈ l) (hl : x.length < y.length) : y ∈ l.take i := by
  obtain ⟨j, hj, rfl⟩ := List.getElem_of_mem hy
  obtain ⟨hi, rfl⟩ := List.getElem?_eq_some_iff.mp hx
  by_cases e : j < i
  · exact List.mem_take_iff_getElem.mpr ⟨j, by omega, rfl⟩
  · rcases Nat.lt_or_ge i j with q | q
    · have := List.pairwise_iff_getElem.mp h i j hi hj q
      omega
    · have : i = j := by omega
      subst this
      omega

theorem HEq1.step {ss ss2 : List Str} {i k : Nat} {x : Str} {H : Str → Nat} (hb : ∀ y ∈ ss, NoBrace y) (hp : ss2.Perm ss) (hnd : ss2.Nodup) (hdesc : ss2.Pairwise (fun a b => b.length ≤ a.length)) (hx : ss2[i]? = some x)
    (hHE : ∀ y ∈ ss2.take i, HEq1 ss H y) (hM : (k : Int) ∈ (0 : Int) :: (ss.filter (fun one => rB sLt bLt x one)).map (fun y => (H y : Int))) (hmax : ∀ a ∈ (0 : Int) :: (ss.filter (fun one => rB sLt bLt x one)).map (fun y => (H y : Int)), a ≤ (k : Int)) :
    (∀ y ∈ ss2.take i, y ≠ x) ∧ ∀ y ∈ ss2.take (i + 1), HEq1 ss (fun z => if z = x then 1 + k else H z) y := by
  have hi := (List.getElem?_eq_some_iff.mp hx).1
  have hne : ∀ y ∈ ss2.take i, y ≠ x := by
    intro y hy e
    obtain ⟨j, hj, e2⟩ := List.mem_take_iff_getElem.mp hy
    obtain ⟨_, e3⟩ := List.getElem?_eq_some_iff.mp hx
    have := List.pairwise_iff_getElem.mp hnd j i (by omega) hi (by omega)
    rw [e2, e3] at this
    exact this e
  have hxs : x ∈ ss := hp.mem_iff.mp (List.mem_of_getElem? hx)
  have hab : ∀ {j : Nat} {y : Str}, j ≤ i → ss2[j]? = some y → ∀ one ∈ ss, rB sLt bLt y one = true → one ∈ ss2.take i ∧ one ≠ x := by
    intro j y hj hy one ho hr
    have h1 := desc_before hdesc hy (hp.mem_iff.mpr ho) (rB_len (hb y (hp.mem_iff.mp (List.mem_of_getElem? hy))) (hb one ho) hr)
    have h2 : one ∈ ss2.take i := by
      have : ss2.take j = (ss2.take i).take j := by rw [List.take_take, Nat.min_eq_left hj]
      rw [this] at h1
      exact List.mem_of_mem_take h1
    exact ⟨h2, hne _ h2⟩
  refine ⟨hne, fun y hy => ?_⟩
  rw [List.take_add_one, hx, Option.toList_some] at hy
  rcases List.mem_append.mp hy with hy | hy
  · obtain ⟨j, hj, e⟩ := List.mem_take_iff_getElem.mp hy
    have hyj : ss2[j]? = some y := by rw [List.getElem?_eq_getElem (by omega), e]
    have hj' : j ≤ i := by omega
    obtain ⟨a1, a2, a3⟩ := hHE y hy
    have hyx := hne y hy
    refine ⟨?_, fun one ho hr => ?_, ?_⟩
    · simp only [if_neg hyx]; exact a1
    · simp only [if_neg hyx, if_neg (hab hj' hyj one ho hr).2]; exact a2 one ho hr
    · simp only [if_neg hyx]
      rcases a3 with a3 | ⟨one, ho, hr, e⟩
      · exact .inl a3
      · exact .inr ⟨one, ho, hr, by simp only [if_neg (hab hj' hyj one ho hr).2]; exact e⟩
  · obtain rfl := List.mem_singleton.mp hy
    refine ⟨by simp, fun one ho hr => ?_, ?_⟩
    · simp only [if_neg (hab (Nat.le_refl _) hx one ho hr).2, if_true]
      have := hmax (H one : Int) (.tail _ (List.mem_map.mpr ⟨one, List.mem_filter.mpr ⟨ho, hr⟩, rfl⟩))
      omega
    · rcases List.mem_cons.mp hM with e | hM
      · left; simp only [if_true]; omega
      · right
        obtain ⟨one, ho, e⟩ := List.mem_map.mp hM
        obtain ⟨ho, hr⟩ := List.mem_filter.mp ho
        exact ⟨one, ho, hr, by simp only [if_neg (hab (Nat.le_refl _) hx one ho hr).2, if_true]; omega⟩
theorem height_of {ss ss2 : List Str} {H : Str → Nat} (hb : ∀ y ∈ ss, NoBrace y) (hp : ss2.Perm ss) (h : ∀ x ∈ ss2, HEq1 ss H x) : IsHeight sLt bLt ss H :=
  ⟨fun y hy => (h y (hp.mem_iff.mpr hy)).1, fun y hy z hz hr => (h y (hp.mem_iff.mpr hy)).2.1 z hz (rB_iff.mpr hr), fun y hy => by
    rcases (h y (hp.mem_iff.mpr hy)).2.2 with a | ⟨z, hz, hr, e⟩
    · exact .inl a
    · exact .inr ⟨z, hz, rB_iff.mp hr, e⟩⟩

section
variable {prog : Program} {w : World} {h₀ h : Heap} {L it c : Addr} {nx : List (Addr × Obj)} {oi o : Obj} {kvs : List (Str × Value)}
theorem list_ne_dict (N : News h₀ L h nx) {r : Addr} {vs : List Value} {n : Nat} (h1 : (r, listOf vs.toArray n) ∈ nx) (h2 : (c, o) ∈ nx) (hd : o.IsDictOf (PySem.strKind prog w) kvs) : r ≠ c := by
  rintro rfl
  have a := (N _ h1).1
  have b := (N _ h2).1
  dsimp only at a b
  rw [a] at b
  cases Option.some.inj b
  obtain ⟨es, ep, _, q, _⟩ := hd
  cases q
theorem BelAt.setD {DB : Addr} {ss xs : List Str} {o' : Obj} (hB : BelAt prog w nx DB ss xs) (N : News h₀ L h nx) (hm : (c, o) ∈ nx) (hd : o.IsDictOf (PySem.strKind prog w) kvs) (hc : c ≠ DB) : BelAt prog w ((c, o') :: but c nx) DB ss xs := by
  obtain ⟨oB, kvs', h1, h2, h3, h4⟩ := hB
  refine ⟨oB, kvs', .tail _ (mem_but.mpr ⟨h1, Ne.symm hc⟩), h2, h3, fun x hx => ?_⟩
  obtain ⟨r, n, vs, a1, a2, a3, a4⟩ := h4 x hx
  exact ⟨r, n, vs, a1, a2, a3, .tail _ (mem_but.mpr ⟨a4, list_ne_dict N a4 hm hd⟩)⟩
end

section
variable {prog : Program} {w : World} {nx : List (Addr × Obj)}
theorem HgtAt.put' {DH : Addr} {H : Str → Nat} {xs : List Str} {x : Str} {o' : Obj} {t : Tok} {k : Nat} {kvs : List (Str × Value)} (hk : H x = k) (hd : o'.IsDictOf (PySem.strKind prog w) (stored kvs x (.int (k : Nat) t))) (hl : kvs.length ≤ xs.length)
    (hv : ∀ y ∈ xs, ∃ t, valueAt kvs y = some (.int (H y : Nat) t)) : HgtAt prog w ((DH, o') :: but DH nx) DH H (xs ++ [x]) := by subst hk; exact HgtAt.put hd hl hv
end

/-- a list of lists of texts -/
structure TabS (nx : List (Addr × Obj)) (T : Addr) (n : Nat) (rs : List Addr) (rows : List (List Str)) : Prop where
  top : (T, listOf (rs.map Value.ref).toArray n) ∈ nx
  len : rs.length = rows.length
  gt : ∀ r ∈ rs, T < r
  nd : rs.Nodup
  row : ∀ (j : Nat) r row, rs[j]? = some r → rows[j]? = some row → ∃ n vs, StrsAre vs row ∧ (r, listOf vs.toArray n) ∈ nx
theorem TabS.keep {nx nx' : List (Addr × Obj)} {T : Addr} {n : Nat} {rs : List Addr} {rows : List (List Str)} {S : List Addr} (x : TabS nx T n rs rows) (hk : ∀ p ∈ nx, p.1 ∉ S → p ∈ nx') (hT : T ∉ S) (hS : ∀ r ∈ rs, r ∉ S) : TabS nx' T n rs rows :=
  ⟨hk _ x.top hT, x.len, x.gt, x.nd, fun j r row h1 h2 => by
    obtain ⟨n, vs, h3, h4⟩ := x.row j r row h1 h2
    exact ⟨n, vs, h3, hk _ h4 (hS r (List.mem_of_getElem? h1))⟩⟩
theorem TabS.cons {nx : List (Addr × Obj)} {T : Addr} {n : Nat} {rs : List Addr} {rows : List (List Str)} {p : Addr × Obj} (x : TabS nx T n rs rows) : TabS (p :: nx) T n rs rows := x.keep (S := []) (fun p hp _ => .tail _ hp) (by simp) (by simp)
theorem TabS.set {nx : List (Addr × Obj)} {T c : Addr} {n : Nat} {rs : List Addr} {rows : List (List Str)} {o : Obj} (x : TabS nx T n rs rows) (hc : c < T) : TabS ((c, o) :: but c nx) T n rs rows :=
  x.keep (S := [c]) (fun p hp q => .tail _ (mem_but.mpr ⟨hp, by simpa using q⟩)) (by simp; exact Nat.ne_of_gt hc) fun r hr => by simp; exact Nat.ne_of_gt (Nat.lt_trans hc (x.gt r hr))
theorem TabS.mem {nx : List (Addr × Obj)} {T : Addr} {n : Nat} {rs : List Addr} {rows : List (List Str)} (x : TabS nx T n rs rows) {r : Addr} (hr : r ∈ rs) : ∃ o, (r, o) ∈ nx := by
  obtain ⟨j, hj, e⟩ := List.getElem_of_mem hr
  have hj2 : j < rows.length := by rw [← x.len]; exact hj
  obtain ⟨n', vs, _, hm⟩ := x.row j r rows[j] (by rw [List.getElem?_eq_getElem hj, e]) (List.getElem?_eq_getElem hj2)
  exact ⟨_, hm⟩
/-- a new row is put at the end -/
theorem TabS.snoc {nx : List (Addr × Obj)} {T r : Addr} {n n' m : Nat} {rs : List Addr} {rows : List (List Str)} {row : List Str} {vs : List Value} (x : TabS nx T n rs rows) (hr : ∀ p ∈ nx, p.1 < r) (hv : StrsAre vs row) :
    TabS ((T, listOf ((rs ++ [r]).map Value.ref).toArray n') :: but T ((r, listOf vs.toArray m) :: nx)) T n' (rs ++ [r]) (rows ++ [row]) := by
  have hTr := hr _ x.top
  have hrs : ∀ q ∈ rs, q < r := fun q hq => by obtain ⟨o, hm⟩ := x.mem hq; exact hr _ hm
  refine ⟨.head _, by simp [x.len], fun q hq => ?_, ?_, fun j q row' h1 h2 => ?_⟩
  · rcases List.mem_append.mp hq with hq | hq
    · exact x.gt q hq
    · rw [List.mem_singleton.mp hq]; exact hTr
  · rw [List.nodup_append]
    refine ⟨x.nd, by simp, fun a ha b hb => ?_⟩
    rw [List.mem_singleton.mp hb]
    exact Nat.ne_of_lt (hrs a ha)
  · by_cases e : j < rs.length
    · rw [List.getElem?_append_left e] at h1
      rw [List.getElem?_append_left (by rw [← x.len]; exact e)] at h2
      obtain ⟨n, vs, h3, h4⟩ := x.row j q row' h1 h2
      exact ⟨n, vs, h3, .tail _ (mem_but.mpr ⟨.tail _ h4, Nat.ne_of_gt (x.gt q (List.mem_of_getElem? h1))⟩)⟩
    · rw [List.getElem?_append_right (by omega)] at h1
      rw [List.getElem?_append_right (by rw [← x.len]; omega)] at h2
      have e2 : j - rs.length = 0 := by
        have := (List.getElem?_eq_some_iff.mp h1).1
        simp at this; omega
      rw [e2] at h1
      rw [← x.len, e2] at h2
      cases h1; cases h2
      exact ⟨m, vs, hv, .tail _ (mem_but.mpr ⟨.head _, Nat.ne_of_gt hTr⟩)⟩
theorem strs_yes {acc : List Value} {ss : List Str} {p : Str → Bool} {g : Str → Str} {j : Nat} {y z : Str} {t : Tok} (h : StrsAre acc (((ss.take j).filter p).map g)) (hj : ss[j]? = some y) (hp : p y = true) (hz : z = g y) :
    StrsAre (acc ++ [.str z t]) (((ss.take (j + 1)).filter p).map g) := by
  subst hz
  rw [List.take_add_one, hj, Option.toList_some, List.filter_append, List.filter_cons, if_pos hp, List.filter_nil, List.map_append]
  exact ss_snoc h
theorem strs_no {acc : List Value} {ss : List Str} {p : Str → Bool} {g : Str → Str} {j : Nat} {y : Str} (h : StrsAre acc (((ss.take j).filter p).map g)) (hj : ss[j]? = some y) (hp : p y = false) : StrsAre acc (((ss.take (j + 1)).filter p).map g) := by
  rw [List.take_add_one, hj, Option.toList_some, List.filter_append, List.filter_cons, if_neg (by rw [hp]; exact Bool.false_ne_true), List.filter_nil, List.append_nil]
  exact h

/-- all of nx₀ but the five cells still stands -/
def Old (L1 : Nat) (nx₀ nx : List (Addr × Obj)) : Prop := ∀ p ∈ nx₀, (p.1 ≤ L1 ∨ L1 + 5 < p.1) → p ∈ nx
section
variable {L1 : Nat} {nx₀ nx : List (Addr × Obj)}
theorem Old.refl : Old L1 nx nx := fun p hp _ => hp
theorem Old.cons (x : Old L1 nx₀ nx) {p : Addr × Obj} : Old L1 nx₀ (p :: nx) := fun q hq h => .tail _ (x q hq h)
theorem Old.cell (x : Old L1 nx₀ nx) {c : Nat} {o : Obj} (h1 : L1 < c) (h2 : c ≤ L1 + 5) : Old L1 nx₀ ((c, o) :: but c nx) := fun q hq h => .tail _ (mem_but.mpr ⟨x q hq h, fun e => by
  rcases h with h | h
  · exact absurd (Nat.lt_of_le_of_lt h h1) (by rw [e]; exact Nat.lt_irrefl _)
  · exact absurd (Nat.lt_of_le_of_lt h2 h) (by rw [e]; exact Nat.lt_irrefl _)⟩)
theorem Old.upd (x : Old L1 nx₀ nx) {a : Addr} {o : Obj} (h : ∀ p ∈ nx₀, p.1 < a) : Old L1 nx₀ ((a, o) :: but a nx) := fun q hq hh => .tail _ (mem_but.mpr ⟨x q hq hh, Nat.ne_of_lt (h q hq)⟩)
end
/-- the rows that stand at the end: by height, as texts of QNames, sorted -/
def ByH (ss : List Str) (H : Str → Nat) (rows : List (List Str)) : Prop := ∀ (j : Nat) row, rows[j]? = some row → row.Perm ((ss.filter fun y => decide (H y = j + 1)).map br) ∧ sortedS row = true
theorem ByH.snoc {ss : List Str} {H : Str → Nat} {rows : List (List Str)} {row : List Str} (x : ByH ss H rows) (h : row.Perm ((ss.filter fun y => decide (H y = rows.length + 1)).map br) ∧ sortedS row = true) : ByH ss H (rows ++ [row]) := by
  intro j r hr
  by_cases e : j < rows.length
  · rw [List.getElem?_append_left e] at hr; exact x j r hr
  · rw [List.getElem?_append_right (by omega)] at hr
    have := (List.getElem?_eq_some_iff.mp hr).1
    simp at this
    have e2 : j = rows.length := by omega
    subst e2
    rw [Nat.sub_self] at hr
    cases hr
    exact h
theorem Due.low' {news nx : List (Addr × Obj)} {L1 : Nat} {T : Obj → Prop} {b n l h z : Option Value} (x : Due news L1 nx T b n l h z) : ∀ p ∈ news, p.1 ≤ L1 := fun p hp => Nat.le_of_lt (x.low p hp)

theorem br_eq2 (x : Str) : Str.ofString "{" ++ x ++ Str.ofString "}n" = br x := by
  apply str_ext
  rw [br_list]
  have e1 : (Str.ofString "{").cps.toList = [123] := by decide +kernel
  have e2 : (Str.ofString "}n").cps.toList = [125, 110] := by decide +kernel
  have app : ∀ a b : Str, (a ++ b).cps.toList = a.cps.toList ++ b.cps.toList := by intro a b; show (a.cps ++ b.cps).toList = _; simp
  rw [app, app, e1, e2]; simp
theorem height_le {ss : List Str} {H : Str → Nat} (hb : ∀ y ∈ ss, NoBrace y) (h : IsHeight sLt bLt ss H) {y : Str} (hy : y ∈ ss) : H y ≤ ss.length + 1 := by
  obtain ⟨u, hu, h1, _⟩ := up_chain (str_orders hb) h _ y hy rfl
  have : dep sLt bLt ss u ≤ ss.length := List.countP_le_length
  omega

section
variable {prog : Program} {w : World} {A : Around} {E : Value → Shared → Prop} {s : Shared}
theorem eq_nil_K {l b : Addr} {vs : List Value} {c : Bool} {Q : Value → Shared → Prop} (hl : s.heap.IsList l vs.toArray) (hb : s.heap.IsList b #[]) (hu : A.units < cLine) (hk : vs.isEmpty = c) (h : Q (.bool c) s) :
    wpAny (model prog w) A (compareOp .Eq (.ref l) (.ref b)) Q E s := by
  subst hk
  by_cases e : vs.length = 0
  · have : vs = [] := List.length_eq_zero_iff.mp e
    subst this
    refine PySem.SeqAt.eq_listAt (e := fun _ => true) hl hb rfl hu (fun j h1 h2 => absurd h1 (Nat.not_lt_zero _)) ?_
    exact h
  · refine PySem.SeqAt.eq_list_lengthsAt hl hb ?_ hu ?_
    · simpa using e
    · have e2 : vs.isEmpty = false := by cases vs with | nil => exact (e rfl).elim | cons _ _ => rfl
      rw [e2] at h; exact h
theorem item_refs {value slice : Expr} {a r : Addr} {rs : List Addr} {k : Nat} {u : Tok} {Q : Value → Shared → Prop} (hl : s.heap.IsList a (rs.map Value.ref).toArray) (hr : rs[k]? = some r) (hk : k < 1000) (h : Q (.ref r) s)
    (hs : subscripted slice false (.ref a) (.int (k : Nat) u) = operate [.ref a, .int (k : Nat) u] (getItem (.ref a) (.int (k : Nat) u)) := by with_unfolding_all rfl) (hg : ∀ r, letTemporaryGo value (.ref a) r = pure () := by intro _; with_unfolding_all rfl) :
    wpAny (model prog w) A (subscriptTail value slice (.ref a) (.int (k : Nat) u)) Q E s :=
  item_listL hl (by omega) (by omega) (x := .ref r) (by rw [Int.toNat_natCast, List.getElem?_map, hr]; rfl) h hs hg
theorem len_strs_K {l : Addr} {vs : List Value} {ys : List Str} {k : Nat} {Q : Value → Shared → Prop} (hl : s.heap.IsList l vs.toArray) (hi : StrsAre vs ys) (hk : ys.length = k) (hfit : k < 1000) (h : ∀ t tk, Q (.int (k : Nat) t) { s with toks := tk }) :
    wpAny (model prog w) A (call (.builtin "len") [.ref l]) Q E s := by
  subst hk
  exact len_strsA hl hi (by omega) (h _ _)
end
/-- the second table: on row j stands what has the place j -/
def ByF (S : List Str) (f : Str → Nat) (rows : List (List Str)) : Prop := ∀ (j : Nat) row, rows[j]? = some row → row = S.filter fun y => decide (f y = j)
theorem ByF.start {f : Str → Nat} {k : Nat} : ByF [] f (List.replicate k []) := fun j row h => by
  rw [List.getElem?_replicate] at h
  split at h
  · cases h; rfl
  · cases h
theorem ByF.step {S : List Str} {f : Str → Nat} {rows : List (List Str)} {x : Str} (h : ByF S f rows) {row : List Str} (hr : rows[f x]? = some row) : ByF (S ++ [x]) f (rows.set (f x) (row ++ [x])) := fun j r hj => by
  by_cases e : f x = j
  · subst e
    rw [List.getElem?_set_self (List.getElem?_eq_some_iff.mp hr).1] at hj
    cases hj
    rw [h _ _ hr, List.filter_append]; simp
  · rw [List.getElem?_set_ne e] at hj
    rw [h _ _ hj, List.filter_append]; simp [e]
/-- a row is grown in place -/
theorem TabS.grow {nx : List (Addr × Obj)} {T r : Addr} {n n' j : Nat} {rs : List Addr} {rows : List (List Str)} {row : List Str} {vs : List Value} (x : TabS nx T n rs rows) (hj : rs[j]? = some r) (hv : StrsAre vs row) :
    TabS ((r, listOf vs.toArray n') :: but r nx) T n rs (rows.set j row) := by
  have hrm := List.mem_of_getElem? hj
  have hTr : T ≠ r := Nat.ne_of_lt (x.gt r hrm)
  refine ⟨.tail _ (mem_but.mpr ⟨x.top, hTr⟩), by rw [List.length_set]; exact x.len, x.gt, x.nd, fun i q row' h1 h2 => ?_⟩
  by_cases e : j = i
  · subst e
    rw [hj] at h1
    cases h1
    have hjl : j < rows.length := by rw [← x.len]; exact (List.getElem?_eq_some_iff.mp hj).1
    rw [List.getElem?_set_self hjl] at h2
    cases h2
    exact ⟨n', vs, hv, .head _⟩
  · rw [List.getElem?_set_ne e] at h2
    obtain ⟨m, ws, h3, h4⟩ := x.row i q row' h1 h2
    refine ⟨m, ws, h3, .tail _ (mem_but.mpr ⟨h4, fun qe => ?_⟩)⟩
    have qe' : q = r := qe
    subst qe'
    obtain ⟨a1, b1⟩ := List.getElem?_eq_some_iff.mp hj
    obtain ⟨a2, b2⟩ := List.getElem?_eq_some_iff.mp h1
    rcases Nat.lt_or_gt_of_ne e with q | q
    · exact List.pairwise_iff_getElem.mp x.nd _ _ a1 a2 q (b1.trans b2.symm)
    · exact List.pairwise_iff_getElem.mp x.nd _ _ a2 a1 q (b2.trans b1.symm)

theorem allLt_all {d : Addr} : ∀ {l : List (Addr × Obj)}, AllLt d l → ∀ p ∈ l, p.1 < d
  | [], _, _, h => nomatch h
  | q :: l, h, p, hp => by
    rcases List.mem_cons.mp hp with rfl | hp
    · exact h.1
    · exact allLt_all h.2 p hp

theorem TabS.old {L1 : Nat} {nx nx' : List (Addr × Obj)} {T : Addr} {n : Nat} {rs : List Addr} {rows : List (List Str)} (x : TabS nx T n rs rows) (hO : Old L1 nx nx') (hT : L1 + 5 < T) : TabS nx' T n rs rows :=
  ⟨hO _ x.top (.inr hT), x.len, x.gt, x.nd, fun j r row h1 h2 => by
    obtain ⟨n, vs, h3, h4⟩ := x.row j r row h1 h2
    exact ⟨n, vs, h3, hO _ h4 (.inr (Nat.lt_trans hT (x.gt r (List.mem_of_getElem? h1))))⟩⟩
theorem count_yes {l : List Str} {p : Str → Bool} {j : Nat} {y : Str} (hj : l[j]? = some y) (hp : p y = true) : (((l.take (j + 1)).countP p : Nat) : Int) = (((l.take j).countP p : Nat) : Int) + 1 := by
  rw [List.take_add_one, hj, Option.toList_some, List.countP_append, List.countP_cons, if_pos hp, List.countP_nil]; omega
theorem count_no {l : List Str} {p : Str → Bool} {j : Nat} {y : Str} (hj : l[j]? = some y) (hp : p y = false) : (((l.take (j + 1)).countP p : Nat) : Int) = (((l.take j).countP p : Nat) : Int) := by
  rw [List.take_add_one, hj, Option.toList_some, List.countP_append, List.countP_cons, if_neg (by rw [hp]; exact Bool.false_ne_true), List.countP_nil]; omega

theorem ex_int {f : Option Value} {k k' : Int} {t : Tok} (h : f = some (.int k t)) (e : k' = k) : ∃ t, f = some (.int k' t) := ⟨t, by rw [e]; exact h⟩
end Mine
end PartU7

section PartU8
open PySem PySem.W PyProof.Rows PySem.Spec PySem.Calls
set_option linter.unusedVariables false
namespace Mine
section
variable {prog : Program} {w : World} {A : Around} {E : Value → Shared → Prop} {Q : Flow → Shared → Prop} {s : Shared} {env : Env} {h₀ : Heap} {L : Addr} {news : List (Addr × Obj)}
def RanInv (h₀ : Heap) (L : Addr) (s : Shared) (it : Addr) (a : Int) (k : Nat) (J : Nat → (Str → Option Value) → List (Addr × Obj) → Prop) (j : Nat) (s' : Shared) : Prop :=
  ∃ h' tk m' news' i, s' = { s with heap := h', toks := tk } ∧ IsRangeIter h' it (a + (i : Nat) * 1) ((k : Int) - (i : Nat)) 1 ∧ Fr h₀ L h' m' ∧ News h₀ L h' news' ∧ (∀ p ∈ news', p.1 ≠ it) ∧ J i m' news' ∧ i ≤ k ∧ j = k + 1 - i
theorem for_rangeK {x : Str} {px : Pos} {body : List Stmt} {r : Addr} {a : Int} {k : Nat} {t u v : Tok} {m₀ : Str → Option Value} (J : Nat → (Str → Option Value) → List (Addr × Obj) → Prop)
    (hh : A.handled = none) (hE : PassesOwn (model prog w) A env E) (hl : env.locals = L) (F : Fr h₀ L s.heap m₀) (N : News h₀ L s.heap news) (hr : IsRange s.heap r a (a + (k : Int)) 1 t u v) (ha : 0 ≤ a ∧ a < 1000) (hk : k < 1000) (hj : J 0 m₀ news)
    (turn : ∀ i tt m₁ news₁ it o h tk (R : Flow → Shared → Prop) (X : Value → Shared → Prop), (∀ f s', FrPost h₀ L s (J (i + 1)) it o Q f s' → R f s') → PassesOwn (model prog w) A env X → i < k → J i m₁ news₁ → (∀ p ∈ news₁, p.1 ≠ it) → (∀ p ∈ news, p.1 < it) → Fr h₀ L h m₁ → News h₀ L h ((it, o) :: news₁) →
      wpAny (model prog w) A (storeName env x (.int (a + (i : Int)) tt)) (fun _ s' => wpAny (model prog w) A (execs body env) R X s') X { s with heap := h, toks := tk })
    (done : ∀ m₁ news₁ h tk, J k m₁ news₁ → Fr h₀ L h m₁ → News h₀ L h news₁ → Q .next { s with heap := h, toks := tk }) :
    wpAny (model prog w) A (pyIter (.ref r)) (fun it s₂ => ForAt prog w A env x px body Q E it s₂) E s := by
  refine wpAny_pyIter_range hr (small_one (by omega) (by omega) (by omega) (by omega)) ?_
  generalize hit : s.heap.objs.size = it
  have hLlt : L < it := by rw [← hit]; exact F.ns.lt
  have W := Walks.range (prog := prog) (w := w) hh it a 1 k
  have hnew : ∀ p ∈ news, p.1 < it := fun p hp => by rw [← hit]; exact Heap.lt_size (N p hp).1
  have hit0 : h₀.get? it = none := Heap.get?_none_of_le (Nat.le_trans F.above (Nat.le_of_lt hLlt))
  have hsz : Builtin.Range.rangeSize a (a + (k : Int)) 1 = (k : Int) := by rw [rangeSize_one]; split <;> omega
  unfold ForAt
  refine codeAny_forLoop (RanInv h₀ L s it a k J) ?_ (k + 1)
    ⟨_, s.toks, m₀, news, 0, rfl, ?_, F.push _, (fun p hp => ⟨Heap.get?_push_of_some _ (N p hp).1, (N p hp).2⟩), fun p hp => Nat.ne_of_lt (hnew p hp), hj, Nat.zero_le _, rfl⟩
  rotate_left
  · have e1 : (a + ((0 : Nat) : Int) * 1) = a := by simp
    have e2 : ((k : Int) - ((0 : Nat) : Int)) = Builtin.Range.rangeSize a (a + (k : Int)) 1 := by rw [hsz]; simp
    show IsRangeIter _ _ (a + ((0 : Nat) : Int) * 1) ((k : Int) - ((0 : Nat) : Int)) 1
    rw [e1, e2, ← hit]
    exact Heap.get?_push_size _ rfl
  rintro j s' ⟨h', tk, m', news', i, rfl, hst', F', N', hnw', hJ, hi, rfl⟩
  have next : ∀ h₁ : Heap, (∀ b o, b ∉ [it] → h'.get? b = some o → h₁.get? b = some o) → Fr h₀ L h₁ m' ∧ News h₀ L h₁ news' := fun h₁ hk₁ =>
    ⟨⟨F'.ns.at' fun o e => hk₁ _ o (by simp; exact Nat.ne_of_lt hLlt) e, fun b o e => hk₁ b o (by simp; intro q; rw [q, hit0] at e; cases e) (F'.keep b o e), F'.above⟩, fun p hp => ⟨hk₁ _ _ (by simp; exact hnw' p hp) (N' p hp).1, (N' p hp).2⟩⟩
  by_cases hlt : i < k
  · refine W.item i _ _ _ hlt hst' fun v h₁ tk₁ hP hst₁ hk₁ => ?_
    obtain ⟨tt, rfl⟩ := hP
    obtain ⟨F₁, N₁⟩ := next h₁ hk₁
    obtain ⟨ob, hob⟩ : ∃ ob : Obj, ({ cls := .type "range_iterator", dict := none, data := .fields #[rawInt (a + ((i + 1 : Nat) : Int) * 1), rawInt ((k : Int) - ((i + 1 : Nat) : Int)), rawInt 1], slots := #[] } : Obj) = ob := ⟨_, rfl⟩
    have hst₂ : h₁.get? it = some ob := by rw [← hob]; exact hst₁
    have N₂ : News h₀ L h₁ ((it, ob) :: news') := by
      intro p hp
      rcases List.mem_cons.mp hp with rfl | hp
      · exact ⟨hst₂, Nat.ne_of_gt hLlt, hit0⟩
      · exact N₁ p hp
    refine wpAny_assign_Name ?_
    rw [Int.mul_one]
    refine wpAny_passesOwn hE (wpAny_mono (turn i tt m' news' it ob h₁ tk₁ _ E (fun _ _ h => h) hE hlt hJ hnw' hnew F₁ N₂) (fun _ s₂ h₂ => wpAny_passesOwn hE (wpAny_mono h₂ (fun f s₃ h₃ => ?_) fun _ _ e => e)) fun _ _ e => e)
    have fin : FrEnd h₀ L s (J (i + 1)) it ob s₃ → ∃ m, m < k + 1 - i ∧ RanInv h₀ L s it a k J m s₃ := by
      rintro ⟨h₄, tk₄, m₄, news₄, rfl, F₄, N₄, ha, hJ₄⟩
      exact ⟨k + 1 - (i + 1), by omega, h₄, tk₄, m₄, news₄, i + 1, rfl, by have := (N₄ _ (.head _)).1; rw [← hob] at this; exact this, F₄, fun p hp => N₄ p (.tail _ hp), ha, hJ₄, hlt, rfl⟩
    cases f with
    | ret v => exact h₃
    | brk => exact h₃
    | next => exact fin h₃
    | cont => exact fin h₃
  · have hin : i = k := by omega
    subst hin
    refine W.done _ _ _ hst' fun h₁ tk₁ hk₁ => wpAny_execs_nil ?_
    obtain ⟨F₁, N₁⟩ := next h₁ hk₁
    exact done m' news' h₁ tk₁ hJ F₁ N₁
end
end Mine
end PartU8

section Walks
open PySem PySem.W PyProof.Rows PySem.Spec PySem.Calls Mine
local macro_rules | `(tactic| k_room) => `(tactic| ((try simp only [depth_under_make, depth_under_kw, depth_in1, depth_deeper, depth_caller]); (try dsimp only); omega))
local macro_rules | `(tactic| k_units) => `(tactic| ((try simp only [units_in1, units_deeper, Around.mark_units, units_caller]); (try dsimp only [ktrTop]); omega))
local macro_rules | `(tactic| k_mem) => `(tactic| first | with_reducible assumption | exact List.mem_cons_self | (refine List.mem_cons_of_mem _ ?_; k_mem))
local macro_rules | `(tactic| k_all) => `(tactic| exact but_ne)

section PartC2
open PySem PySem.W PyProof.Rows PySem.Spec PySem.Calls
namespace Mine
section
variable {w : World} {p : Program} {loose : List Str} {mean : ExcName → Option Value} {mg mb : Str → Option Value} {dp un : Nat} {gd : Option (List Code)} {cn : Str} {cs : Scope} {a : Addr} {ccd : Value} {cl : List (Str × Addr)} {outer : List Env} {A₀ : Around} {base h₀ : Heap} {L : Addr} {m : Str → Option Value} {news : List (Addr × Obj)} {s : Shared} {Q E : Value → Shared → Prop}

local macro_rules | `(tactic| walk_at $s:str) => `(tactic| k_extra $s)

set_option maxRecDepth 100000 in
set_option maxHeartbeats 8000000 in
theorem bisect_left_K {D : Addr} {vs : List Value} {ss : List Str} {n : Nat} {x : Str} {tx t0 : Tok} (B : Below A₀ base outer h₀) (F : Fr h₀ L s.heap m) (X : (Mine.hd.heap_39 w.params).In h₀) (N : News h₀ L s.heap news) (T : Top p loose mean mg mb h₀) (hk : cs.kind = .function)
   (hd : dp + 5 < recursionLimit) (hD : (D, listOf vs.toArray n) ∈ news) (hs : StrsAre vs ss) (hl : ss.length < 1000)
   (hm : ∀ i j : Nat, i ≤ j → j < ss.length → sLt (ss.getD j Str.empty) x = true → sLt (ss.getD i Str.empty) x = true)
    (hret : ∀ (k : Nat) t h' tk', Cut (fun i => sLt (ss.getD i Str.empty) x) ss.length k → Fr h₀ L h' m → News h₀ L h' news → Q (.int k t) { s with heap := h', toks := tk' }) :
    wpAny (model PySem.Challenge.rw_wu0067_01.row.prog w) (ktrTop dp un gd cn cs L a ccd cl outer) (call (.ref 50) [.ref D, .str x tx, .int 0 t0, .none] [(Str.ofString "key", .ref 64)]) Q E s := by
  obtain ⟨ck, cnm, cg, cc, cm⟩ := cs
  have hk' : ck = .function := hk
  subst hk'
  w_top off
  k_with_none
  k_with "call builtin:len" => ((k_here; (with_reducible show wpAny _ _ (call (Value.builtin "len") [Value.ref _]) _ _ _); k_dflt (refine' len_strsA (News.isList ?N ?M) ?S ?l ?_; (case N => k_asm); (case M => assumption); (case S => assumption); (case l => omega); k_whole)))
  k_with "exec While Compare cons nil" => ((rename Fr _ _ _ _ => lF'); (rename News _ _ _ _ => lN'); (with_unfolding_all refine' while_lohi (Bis (fun i => sLt (ss.getD i Str.empty) x) ss.length) lF' lN' ?wa ?wb ?wc ?wd ?we); (case wa => rfl); (case wb => rfl); (case wc => exact Bis.start rfl rfl); (case we => first | assumption | passes_own | with_unfolding_all passes_own); (case' wd => (clear lF' lN'; intro lo hi t t' u h tk R8 X8 hR8 hX8 hP F' N'; have hP1 := hP.h0; have hP2 := hP.h1; have hP3 := hP.h2)); (try dsimp only); (try k_fold))
  k_with "subscriptTail Name Name ref int" => (k_dflt (refine' item_strsA (News.isList ?N ?M) ?S ?h0 ?h1 ?h2 ?_; (case N => k_asm); (case M => exact hD); (case S => exact hs); (case h0 => (have := mid_bounds (by assumption) hP1; omega)); (case h1 => (have := mid_bounds (by assumption) hP1; omega)); (case h2 => (have := mid_bounds (by assumption) hP1; omega)); k_whole))
  revert X; k_fill; intro X
  refine wpAny_call ?_
  k_dflt k_enter
  refine wp_holdE (by first | passes_own | with_unfolding_all passes_own) ?_
  intro R0 X0 hR0 hE0
  k_steps
  · refine hR8 .next _ ⟨_, _, _, _, _, _, _, rfl, by assumption, by assumption, rfl, rfl, fun z h1 h2 h3 => ?_, Bis.up hm hP (by assumption) ?_, ?_, ?_⟩
    · simp [h1, h2, h3]
    · simp [sLt]; assumption
    · have := mid_bounds (by assumption) hP1; omega
    · have := mid_bounds (by assumption) hP1; omega
  · refine hR8 .next _ ⟨_, _, _, _, _, _, _, rfl, by assumption, by assumption, rfl, rfl, fun z h1 h2 h3 => ?_, Bis.down hm hP (by assumption) ?_, ?_, ?_⟩
    · simp [h1, h2, h3]
    · simp [sLt]; assumption
    · have := mid_bounds (by assumption) hP1; omega
    · have := mid_bounds (by assumption) hP1; omega
  · refine hR0 _ _ ?_
    (try dsimp only)
    k_steps
    obtain ⟨e, c⟩ := hP.done (by assumption)
    rw [e]
    exact hret _ _ _ _ c (by assumption) (by assumption)
set_option maxRecDepth 100000 in
set_option maxHeartbeats 8000000 in
theorem bisect_left_K2 {D : Addr} {vs : List Value} {ss : List Str} {n : Nat} {x : Str} {tx : Tok} (B : Below A₀ base outer h₀) (F : Fr h₀ L s.heap m) (X : (Mine.hd.heap_39 w.params).In h₀) (N : News h₀ L s.heap news) (T : Top p loose mean mg mb h₀) (hk : cs.kind = .function)
   (hd : dp + 5 < recursionLimit) (hD : (D, listOf vs.toArray n) ∈ news) (hs : StrsAre vs ss) (hl : ss.length < 1000)
   (hm : ∀ i j : Nat, i ≤ j → j < ss.length → sLt (ss.getD j Str.empty) x = true → sLt (ss.getD i Str.empty) x = true)
    (hret : ∀ (k : Nat) t h' tk', Cut (fun i => sLt (ss.getD i Str.empty) x) ss.length k → Fr h₀ L h' m → News h₀ L h' news → Q (.int k t) { s with heap := h', toks := tk' }) :
    wpAny (model PySem.Challenge.rw_wu0067_01.row.prog w) (ktrTop dp un gd cn cs L a ccd cl outer) (call (.ref 50) [.ref D, .str x tx] [(Str.ofString "key", .ref 64)]) Q E s := by
  obtain ⟨ck, cnm, cg, cc, cm⟩ := cs
  have hk' : ck = .function := hk
  subst hk'
  w_top off
  k_with_none
  k_with "call builtin:len" => ((k_here; (with_reducible show wpAny _ _ (call (Value.builtin "len") [Value.ref _]) _ _ _); k_dflt (refine' len_strsA (News.isList ?N ?M) ?S ?l ?_; (case N => k_asm); (case M => assumption); (case S => assumption); (case l => omega); k_whole)))
  k_with "exec While Compare cons nil" => ((rename Fr _ _ _ _ => lF'); (rename News _ _ _ _ => lN'); (with_unfolding_all refine' while_lohi (Bis (fun i => sLt (ss.getD i Str.empty) x) ss.length) lF' lN' ?wa ?wb ?wc ?wd ?we); (case wa => rfl); (case wb => rfl); (case wc => exact Bis.start rfl rfl); (case we => first | assumption | passes_own | with_unfolding_all passes_own); (case' wd => (clear lF' lN'; intro lo hi t t' u h tk R8 X8 hR8 hX8 hP F' N'; have hP1 := hP.h0; have hP2 := hP.h1; have hP3 := hP.h2)); (try dsimp only); (try k_fold))
  k_with "subscriptTail Name Name ref int" => (k_dflt (refine' item_strsA (News.isList ?N ?M) ?S ?h0 ?h1 ?h2 ?_; (case N => k_asm); (case M => exact hD); (case S => exact hs); (case h0 => (have := mid_bounds (by assumption) hP1; omega)); (case h1 => (have := mid_bounds (by assumption) hP1; omega)); (case h2 => (have := mid_bounds (by assumption) hP1; omega)); k_whole))
  revert X; k_fill; intro X
  refine wpAny_call ?_
  k_dflt k_enter
  refine wp_holdE (by first | passes_own | with_unfolding_all passes_own) ?_
  intro R0 X0 hR0 hE0
  k_steps
  · refine hR8 .next _ ⟨_, _, _, _, _, _, _, rfl, by assumption, by assumption, rfl, rfl, fun z h1 h2 h3 => ?_, Bis.up hm hP (by assumption) ?_, ?_, ?_⟩
    · simp [h1, h2, h3]
    · simp [sLt]; assumption
    · have := mid_bounds (by assumption) hP1; omega
    · have := mid_bounds (by assumption) hP1; omega
  · refine hR8 .next _ ⟨_, _, _, _, _, _, _, rfl, by assumption, by assumption, rfl, rfl, fun z h1 h2 h3 => ?_, Bis.down hm hP (by assumption) ?_, ?_, ?_⟩
    · simp [h1, h2, h3]
    · simp [sLt]; assumption
    · have := mid_bounds (by assumption) hP1; omega
    · have := mid_bounds (by assumption) hP1; omega
  · refine hR0 _ _ ?_
    (try dsimp only)
    k_steps
    obtain ⟨e, c⟩ := hP.done (by assumption)
    rw [e]
    exact hret _ _ _ _ c (by assumption) (by assumption)
end
end Mine
end PartC2

section PartC3
open PySem PySem.W PyProof.Rows PySem.Spec PySem.Calls
namespace Mine
section
variable {w : World} {p : Program} {loose : List Str} {mean : ExcName → Option Value} {mg mb : Str → Option Value} {dp un : Nat} {gd : Option (List Code)} {cn : Str} {cs : Scope} {a : Addr} {ccd : Value} {cl : List (Str × Addr)} {outer : List Env} {A₀ : Around} {base h₀ : Heap} {L : Addr} {m : Str → Option Value} {news : List (Addr × Obj)} {s : Shared} {Q E : Value → Shared → Prop}


set_option maxRecDepth 100000 in
set_option maxHeartbeats 8000000 in
theorem insort_left_K {D : Addr} {vs : List Value} {ss : List Str} {n : Nat} {x : Str} {tx : Tok} {g : Obj → List (Addr × Obj)} (B : Below A₀ base outer h₀) (F : Fr h₀ L s.heap m) (X : (Mine.hd.heap_39 w.params).In h₀) (N : News h₀ L s.heap news) (T : Top p loose mean mg mb h₀) (hk : cs.kind = .function)
   (hd : dp + 15 < recursionLimit) (hD : (D, listOf vs.toArray n) ∈ news) (U : UpdF D (listOf vs.toArray n) news g) (hs : StrsAre vs ss) (hl : ss.length < 500)
   (hm : ∀ i j : Nat, i ≤ j → j < ss.length → sLt (ss.getD j Str.empty) x = true → sLt (ss.getD i Str.empty) x = true)
    (hret : ∀ (k : Nat) t h' tk', Cut (fun i => sLt (ss.getD i Str.empty) x) ss.length k → Fr h₀ L h' m → News h₀ L h' (g (listOf (vs.take k ++ .str x t :: vs.drop k).toArray (n + 1))) → Q .none { s with heap := h', toks := tk' }) :
    wpAny (model PySem.Challenge.rw_wu0067_01.row.prog w) (ktrTop dp un gd cn cs L a ccd cl outer) (call (.ref 41) [.ref D, .str x tx] [(Str.ofString "key", .ref 64)]) Q E s := by
  obtain ⟨ck, cnm, cg, cc, cm⟩ := cs
  have hk' : ck = .function := hk
  subst hk'
  w_top off
  k_with_none
  have hlen := hs.len_eq
  k_with "call ref" => ((with_reducible show wpAny _ _ (call (Value.ref 50) _ _) _ _ _); k_dflt (refine' bisect_left_K ?B ?F ?X ?N ?T ?kk ?d ?D ?S ?l ?m ?_; (case B => k_asm); (case F => k_asm); (case X => k_asm); (case N => k_asm); (case T => k_asm); (case kk => rfl); (case d => k_room); (case D => exact hD); (case S => exact hs); (case l => omega); (case m => exact hm)); intro k9 t9 h9 tk9 c9 F9 N9; (try dsimp only); (try k_fold))
  k_with "call builtin:list.insert" => (k_dflt (refine' insert_K ?F ?N ?U ?k ?l ?_; (case F => k_asm); (case N => k_asm); (case U => exact U); (case k => (have := c9.1; omega)); (case l => omega)); intro h8 F8 N8; (try dsimp only); (try k_fold))
  revert X; k_fill; intro X
  refine wpAny_call ?_
  k_dflt k_enter
  refine wp_hold ?_
  intro R0 X0 hR0
  k_steps
  refine hR0 _ _ ?_
  (try dsimp only)
  k_steps
  exact hret _ _ _ _ c9 (by assumption) (by assumption)
end
end Mine
end PartC3

section PartC4
open PySem PySem.W PyProof.Rows PySem.Spec PySem.Calls
namespace Mine
section
variable {w : World} {p : Program} {loose : List Str} {mean : ExcName → Option Value} {mg mb : Str → Option Value} {dp un : Nat} {gd : Option (List Code)} {cn : Str} {cs : Scope} {a : Addr} {ccd : Value} {cl : List (Str × Addr)} {outer : List Env} {A₀ : Around} {base h₀ : Heap} {L : Addr} {m : Str → Option Value} {news : List (Addr × Obj)} {s : Shared} {Q E : Value → Shared → Prop}


set_option maxRecDepth 100000 in
set_option maxHeartbeats 8000000 in
theorem qname_K {x : Str} {tx tn : Tok} (B : Below A₀ base outer h₀) (F : Fr h₀ L s.heap m) (X : (Mine.hd.heap_39 w.params).In h₀) (N : News h₀ L s.heap news) (T : Top p loose mean mg mb h₀) (hk : cs.kind = .function)
   (hd : dp + 15 < recursionLimit) (hu : un + 50 < cLine) (hl : x.length < 1000)
    (hret : ∀ q d k t h' tk', Fr h₀ L h' m → News h₀ L h' ((q, instObj 145 d) :: (d, qd w (br x) k t) :: news) → (∀ p ∈ news, p.1 < d) → d < q → Q (.ref q) { s with heap := h', toks := tk' }) :
    wpAny (model PySem.Challenge.rw_wu0067_01.row.prog w) (ktrTop dp un gd cn cs L a ccd cl outer) (call (.ref 145) [.str x tx, .str (Str.ofString "n") tn]) Q E s := by
  obtain ⟨ck, cnm, cg, cc, cm⟩ := cs
  have hk' : ck = .function := hk
  subst hk'
  w_top off
  k_with_none
  revert X; k_fill; intro X
  k_steps
  rename_i kF kN _ _
  rw [br_eq] at kN
  exact hret _ _ _ _ _ _ kF kN (by assumption) (by assumption)
end
end Mine
end PartC4

section PartC5
open PySem PySem.W PyProof.Rows PySem.Spec PySem.Calls
namespace Mine
section
variable {w : World} {p : Program} {loose : List Str} {mean : ExcName → Option Value} {mg mb : Str → Option Value} {dp un : Nat} {gd : Option (List Code)} {cn : Str} {cs : Scope} {a : Addr} {ccd : Value} {cl : List (Str × Addr)} {outer : List Env} {A₀ : Around} {base h₀ : Heap} {L : Addr} {m : Str → Option Value} {news : List (Addr × Obj)} {s : Shared} {Q E : Value → Shared → Prop}


set_option maxRecDepth 100000 in
set_option maxHeartbeats 8000000 in
theorem bisect_right_K {D q₀ d₀ : Addr} {vs : List Value} {txs : List Str} {n : Nat} {tx : Str} {k₀ t₀ t0 : Tok} (B : Below A₀ base outer h₀) (F : Fr h₀ L s.heap m) (X : (Mine.hd.heap_39 w.params).In h₀) (N : News h₀ L s.heap news) (T : Top p loose mean mg mb h₀) (hk : cs.kind = .function)
   (hd : dp + 15 < recursionLimit) (hu : un + 50 < cLine) (hD : (D, listOf vs.toArray n) ∈ news) (hs : QsAre w news vs txs) (hl : txs.length < 500) (hq1 : (q₀, instObj 145 d₀) ∈ news) (hq2 : (d₀, qd w tx k₀ t₀) ∈ news)
   (hm : ∀ i j : Nat, i ≤ j → j < txs.length → (!sLt tx (txs.getD j Str.empty)) = true → (!sLt tx (txs.getD i Str.empty)) = true)
    (hret : ∀ (k : Nat) t h' tk', Cut (fun i => !sLt tx (txs.getD i Str.empty)) txs.length k → Fr h₀ L h' m → News h₀ L h' news → Q (.int k t) { s with heap := h', toks := tk' }) :
    wpAny (model PySem.Challenge.rw_wu0067_01.row.prog w) (ktrTop dp un gd cn cs L a ccd cl outer) (call (.ref 32) [.ref D, .ref q₀, .int 0 t0, .none] []) Q E s := by
  obtain ⟨ck, cnm, cg, cc, cm⟩ := cs
  have hk' : ck = .function := hk
  subst hk'
  w_top off
  k_with_none
  k_with "exec While Compare cons nil" => ((rename Fr _ _ _ _ => lF'); (rename News _ _ _ _ => lN'); (with_unfolding_all refine' while_lohi (Bis (fun i => !sLt tx (txs.getD i Str.empty)) txs.length) lF' lN' ?wa ?wb ?wc ?wd ?we); (case wa => rfl); (case wb => rfl); (case wc => exact Bis.start rfl rfl); (case we => first | assumption | passes_own | with_unfolding_all passes_own); (case' wd => (clear lF' lN'; intro lo hi t t' u h tk R8 X8 hR8 hX8 hP F' N'; have hP1 := hP.h0; have hP2 := hP.h1; have hP3 := hP.h2)); (try dsimp only); (try k_fold))
  k_with "call builtin:len" => (k_dflt (refine' len_list_K (News.isList ?N ?M) ?S ?l ?_; (case N => k_asm); (case M => exact hD); (case S => exact hs.1); (case l => omega); k_whole))
  k_with "subscriptTail Name Name ref int" => (k_dflt (refine' item_Q (News.isList ?N ?M) ?S ?h0 ?h1 ?h2 ?_; (case N => k_asm); (case M => exact hD); (case S => exact hs); (case h0 => (have := mid_bounds (by assumption) hP1; omega)); (case h1 => (have := mid_bounds (by assumption) hP1; omega)); (case h2 => (have := mid_bounds (by assumption) hP1; omega)); k_whole); intro q9 d9 k9 t9 hq91 hq92)
  revert X; k_fill; intro X
  refine wpAny_call ?_
  k_dflt k_enter
  refine wp_holdE (by first | passes_own | with_unfolding_all passes_own) ?_
  intro R0 X0 hR0 hE0
  k_steps
  · refine hR8 .next _ ⟨_, _, _, _, _, _, _, rfl, by assumption, by assumption, rfl, rfl, fun z h1 h2 h3 => ?_, Bis.down hm hP (by assumption) ?_, ?_, ?_⟩
    · simp [h1, h2, h3]
    · simp [sLt]; assumption
    · have := mid_bounds (by assumption) hP1; omega
    · have := mid_bounds (by assumption) hP1; omega
  · refine hR8 .next _ ⟨_, _, _, _, _, _, _, rfl, by assumption, by assumption, rfl, rfl, fun z h1 h2 h3 => ?_, Bis.up hm hP (by assumption) ?_, ?_, ?_⟩
    · simp [h1, h2, h3]
    · simp [sLt]; assumption
    · have := mid_bounds (by assumption) hP1; omega
    · have := mid_bounds (by assumption) hP1; omega
  · refine hR0 _ _ ?_
    (try dsimp only)
    k_steps
    obtain ⟨e, c⟩ := hP.done (by assumption)
    rw [e]
    exact hret _ _ _ _ c (by assumption) (by assumption)

set_option maxRecDepth 100000 in
set_option maxHeartbeats 8000000 in
theorem insort_right_K {D q₀ d₀ : Addr} {vs : List Value} {txs : List Str} {n : Nat} {tx : Str} {k₀ t₀ : Tok} {g : Obj → List (Addr × Obj)} (B : Below A₀ base outer h₀) (F : Fr h₀ L s.heap m) (X : (Mine.hd.heap_39 w.params).In h₀) (N : News h₀ L s.heap news) (T : Top p loose mean mg mb h₀) (hk : cs.kind = .function)
   (hd : dp + 25 < recursionLimit) (hu : un + 60 < cLine) (hD : (D, listOf vs.toArray n) ∈ news) (U : UpdF D (listOf vs.toArray n) news g) (hs : QsAre w news vs txs) (hl : txs.length < 500) (hq1 : (q₀, instObj 145 d₀) ∈ news) (hq2 : (d₀, qd w tx k₀ t₀) ∈ news)
   (hm : ∀ i j : Nat, i ≤ j → j < txs.length → (!sLt tx (txs.getD j Str.empty)) = true → (!sLt tx (txs.getD i Str.empty)) = true)
    (hret : ∀ (k : Nat) h' tk', Cut (fun i => !sLt tx (txs.getD i Str.empty)) txs.length k → Fr h₀ L h' m → News h₀ L h' (g (listOf (vs.take k ++ .ref q₀ :: vs.drop k).toArray (n + 1))) → Q .none { s with heap := h', toks := tk' }) :
    wpAny (model PySem.Challenge.rw_wu0067_01.row.prog w) (ktrTop dp un gd cn cs L a ccd cl outer) (call (.ref 23) [.ref D, .ref q₀] []) Q E s := by
  obtain ⟨ck, cnm, cg, cc, cm⟩ := cs
  have hk' : ck = .function := hk
  subst hk'
  w_top off
  k_with_none
  have hlen := hs.1
  k_with "call ref" => ((with_reducible show wpAny _ _ (call (Value.ref 32) _ _) _ _ _); k_dflt (refine' bisect_right_K ?B ?F ?X ?N ?T ?kk ?d ?u ?D ?S ?l ?q1 ?q2 ?m ?_; (case B => k_asm); (case F => k_asm); (case X => k_asm); (case N => k_asm); (case T => k_asm); (case kk => rfl); (case d => k_room); (case u => k_units); (case D => exact hD); (case S => exact hs); (case l => omega); (case q1 => exact hq1); (case q2 => exact hq2); (case m => exact hm)); intro k9 t9 h9 tk9 c9 F9 N9; (try dsimp only); (try k_fold))
  k_with "call builtin:list.insert" => (k_dflt (refine' insert_K ?F ?N ?U ?k ?l ?_; (case F => k_asm); (case N => k_asm); (case U => exact U); (case k => (have := c9.1; omega)); (case l => omega)); intro h8 F8 N8; (try dsimp only); (try k_fold))
  revert X; k_fill; intro X
  refine wpAny_call ?_
  k_dflt k_enter
  refine wp_holdE (by first | passes_own | with_unfolding_all passes_own) ?_
  intro R0 X0 hR0 hE0
  k_steps
  refine hR0 _ _ ?_
  (try dsimp only)
  k_steps
  exact hret _ _ _ c9 (by assumption) (by assumption)
end
end Mine
end PartC5

section PartC6
open PySem PySem.W PyProof.Rows PySem.Spec PySem.Calls
namespace Mine
section
variable {w : World} {p : Program} {loose : List Str} {mean : ExcName → Option Value} {mg mb : Str → Option Value} {dp un : Nat} {gd : Option (List Code)} {cn : Str} {cs : Scope} {a : Addr} {ccd : Value} {cl : List (Str × Addr)} {outer : List Env} {A₀ : Around} {base h₀ : Heap} {L : Addr} {m : Str → Option Value} {news : List (Addr × Obj)} {s : Shared} {Q E : Value → Shared → Prop}


set_option maxRecDepth 100000 in
set_option maxHeartbeats 8000000 in
theorem laid_K {TH sp : Addr} {zs : Row} {nT : Nat} {I : List (Addr × Obj) → Prop} {Is : List (Addr × Obj) → Value → Str → Prop} {lt le : Str → Str → Bool} {ot : Obj} {X₀ : List (Addr × Obj)} (B : Below A₀ base outer h₀) (F : Fr h₀ L s.heap m) (X : (Mine.hd.heap_39 w.params).In h₀) (N : News h₀ L s.heap news) (T : Top p loose mean mg mb h₀) (hk : cs.kind = .function)
   (hC : CodeHd base 160 156) (hsp : keepIn (Mine.hd.heap_39 w.params) (.ref sp) = true) (hspec : SpotSpec w p loose mean mg mb sp I Is lt le) (hlo : LeOf lt le)
   (hIs : ∀ nx nx' v x, (∀ p ∈ nx, p.1 ≠ 156 → p ∈ nx') → Is nx v x → Is nx' v x) (hvv : ∀ z ∈ zs, (∃ a, z.1 = .ref a) ∨ (∃ x t, z.1 = .str x t))
   (hd : dp + 60 < recursionLimit) (hu : un + 150 < cLine) (hTH : (TH, listOf (zs.map (·.1)).toArray nT) ∈ news) (hTH' : TH ≠ 156) (hlen : zs.length < 100) (hI0 : I X₀) (hX0 : ∀ q ∈ X₀, q ∈ news) (hz : ∀ z ∈ zs, Is news z.1 z.2) (ht : (156, ot) ∈ news)
    (hret : ∀ T nT rs h' tk' news' X', TabAt news' T nT rs (zs.foldl (fun t x => tabIns (ltP lt) x t) []) → (∀ p ∈ news, p.1 ≠ 156 → p ∈ news') → I X' → (∀ q ∈ X', q ∈ news') → (∀ p ∈ news, p.1 < T) → (∀ r ∈ rs, T < r) → (∀ row ∈ (zs.foldl (fun t x => tabIns (ltP lt) x t) []), RowGood le zs zs.length row) →
      Fr h₀ L h' m → News h₀ L h' news' → Q (.ref T) { s with heap := h', toks := tk' }) :
    wpAny (model PySem.Challenge.rw_wu0067_01.row.prog w) (ktrTop dp un gd cn cs L a ccd cl outer) (call (.ref 175) [.ref TH, .ref sp]) Q E s := by
  obtain ⟨ck, cnm, cg, cc, cm⟩ := cs
  have hk' : ck = .function := hk
  subst hk'
  w_top off
  k_with_none
  k_with "callWith ref" => (k_dflt (refine' callWith_K ?k1 ?k2 ?_; (case k1 => k_asm); (case k2 => exact hsp); k_whole))
  k_with "exec For Name Name cons nil" => (refine' for_start ?_ ?hs; (case hs => intro _; rfl); (try dsimp only); (try k_fold))
  revert X; k_fill; intro X
  refine wpAny_call ?_
  k_dflt k_enter
  refine wp_holdE (by first | passes_own | with_unfolding_all passes_own) ?_
  intro R0 X0 hR0 hE0
  k_steps
  rename_i g1 L1 hx1 FG1 B1 X1 T1 qk1 ek1 T2 hx2 hT2 h1 F1 N1
  have hT156 : 156 < T2 := hT2 _ ht
  have hlow : ∀ q ∈ X₀, q.1 < T2 := fun q hq => hT2 q (hX0 q hq)
  refine for_list (vs := zs.map (·.1)) (n := nT) (fun i mm nx => mm (Str.ofString "spot") = some (.ref sp) ∧ mm (Str.ofString "table") = some (.ref T2) ∧ ∃ nT' rs Xi, TabAt nx T2 nT' rs ((zs.take i).foldl (fun t x => tabIns (ltP lt) x t) []) ∧
      (∀ p ∈ news, p.1 ≠ 156 → p ∈ nx) ∧ I Xi ∧ (∀ q ∈ Xi, q ∈ nx ∧ q.1 ∉ T2 :: rs) ∧ (T2 :: rs).Nodup ∧ (∀ r ∈ rs, T2 < r) ∧ (∀ row ∈ ((zs.take i).foldl (fun t x => tabIns (ltP lt) x t) []), RowGood le zs i row))
    rfl ?hE rfl F1 N1 ?hJl ?hj ?turn ?done
  case hE => first | assumption | passes_own | with_unfolding_all passes_own
  case hJl => rintro i mm nx ⟨_, _, _, _, _, _, hk, _⟩; exact hk _ hTH hTH'
  case hj => exact ⟨rfl, rfl, 0, [], X₀, ⟨.head _, rfl, fun j r row h1 _ => by simp at h1⟩, fun p hp _ => .tail _ hp, hI0, fun q hq => ⟨.tail _ (hX0 q hq), by simp; exact Nat.ne_of_lt (hlow q hq)⟩, by simp, by simp, by simp⟩
  case turn =>
    intro i v m₁ nx it o h tk R8 X8 hR8 hX8 hv hJ hit hit2 F N
    (try dsimp only)
    obtain ⟨hs1, hs2, nT', rs, Xi, hTab, hK, hI1, hXi, hnd, h156, hgood⟩ := hJ
    have F := fr_mset (l := [(Str.ofString "spot", some (.ref sp)), (Str.ofString "table", some (.ref T2))]) F (by simp [hs1, hs2])
    obtain ⟨z0, hz0, rfl⟩ : ∃ z, zs[i]? = some z ∧ v = z.1 := by
      rw [List.getElem?_map] at hv
      cases e : zs[i]? with
      | none => rw [e] at hv; cases hv
      | some z => rw [e] at hv; exact ⟨z, rfl, (Option.some.inj hv).symm⟩
    have hz0m : z0 ∈ zs := List.mem_of_getElem? hz0
    k_steps
    rename Fr _ _ _ _ => F2
    rename News _ _ _ _ => N2
    have hfold : (zs.take (i + 1)).foldl (fun t x => tabIns (ltP lt) x t) [] = tabIns (ltP lt) z0 ((zs.take i).foldl (fun t x => tabIns (ltP lt) x t) []) := by
      rw [List.take_add_one, hz0]; simp
    rw [hfold] at hR8
    have htl := fold_len (lt := ltP lt) (zs.take i) []
    generalize (zs.take i).foldl (fun t x => tabIns (ltP lt) x t) [] = tbl at hTab hgood htl hR8
    have hi100 : i < 100 := by have := (List.getElem?_eq_some_iff.mp hz0).1; omega
    have hT2it : T2 ≠ it := fun q => hit _ hTab.top q
    have h156it : 156 ≠ it := Nat.ne_of_lt (hit2 _ (.tail _ ht))
    have hrow_of : ∀ r ∈ rs, ∃ o, (r, o) ∈ nx := by
      intro r hr
      obtain ⟨j, hj, e⟩ := List.getElem_of_mem hr
      have hj2 : j < tbl.length := by rw [← hTab.len]; exact hj
      obtain ⟨n', hm⟩ := hTab.row j r tbl[j] (by rw [List.getElem?_eq_getElem hj, e]) (List.getElem?_eq_getElem hj2)
      exact ⟨_, hm⟩
    have hrsit : ∀ r ∈ rs, r ≠ it := by
      intro r hr q
      obtain ⟨o', hm⟩ := hrow_of r hr
      exact hit _ hm q
    have hnd2 := List.nodup_cons.mp hnd
    refine for_list (vs := rs.map Value.ref) (n := nT') (fun j mm nx2 => mm (Str.ofString "spot") = some (.ref sp) ∧ mm (Str.ofString "table") = some (.ref T2) ∧ ∃ (P : List Row) (z : VN) (Xj : List (Addr × Obj)), P.length = j ∧ z ∈ zs ∧ mm (Str.ofString "left") = some z.1 ∧
        tabIns (ltP lt) z0 tbl = P ++ tabIns (ltP lt) z (tbl.drop j) ∧ TabAt nx2 T2 nT' rs (P ++ tbl.drop j) ∧ (∀ p ∈ news, p.1 ≠ 156 → p ∈ nx2) ∧ I Xj ∧ (∀ q ∈ Xj, q ∈ nx2 ∧ q.1 ∉ it :: T2 :: rs) ∧ (it, o) ∈ nx2 ∧ (∀ row ∈ P ++ tbl.drop j, RowGood le zs i row))
      rfl ?hE2 rfl F2 N2 ?hJl2 ?hj2 ?turn2 ?done2
    case hE2 => first | assumption | passes_own | with_unfolding_all passes_own
    case hJl2 => rintro j mm nx ⟨_, _, P, z, _, _, _, _, _, hTab2, _⟩; exact hTab2.top
    case hj2 =>
      refine ⟨rfl, rfl, [], z0, Xi, rfl, hz0m, rfl, by simp, by simpa using hTab.keep (S := []) (fun p hp _ => .tail _ hp) (by simp) (by simp), fun p hp h => .tail _ (hK p hp h), hI1, fun q hq => ⟨.tail _ (hXi q hq).1, ?_⟩, .head _, by simpa using hgood⟩
      rw [List.mem_cons, not_or]
      exact ⟨hit q (hXi q hq).1, (hXi q hq).2⟩
    case turn2 =>
      intro j v m₂ nx2 it2 o2 h tk R7 X7 hR7 hX7 hv hJ hitb hitb2 F N
      (try dsimp only)
      obtain ⟨hs3, hs4, P, z, Xj, hPl, hzm, hleft, htab, hTab2, hK2, hI2, hXj, hio, hgood2⟩ := hJ
      have F := fr_mset (l := [(Str.ofString "spot", some (.ref sp)), (Str.ofString "table", some (.ref T2)), (Str.ofString "left", some z.1)]) F (by simp [hs3, hs4, hleft])
      obtain ⟨r, hr, rfl⟩ : ∃ r, rs[j]? = some r ∧ v = Value.ref r := by
        rw [List.getElem?_map] at hv
        cases e : rs[j]? with
        | none => rw [e] at hv; cases hv
        | some z => rw [e] at hv; exact ⟨z, rfl, (Option.some.inj hv).symm⟩
      have hjl : j < tbl.length := by rw [← hTab.len]; exact (List.getElem?_eq_some_iff.mp hr).1
      obtain ⟨row, hrow⟩ : ∃ row, tbl[j]? = some row := ⟨_, List.getElem?_eq_getElem hjl⟩
      have hdrop : tbl.drop j = row :: tbl.drop (j + 1) := by
        rw [List.drop_eq_getElem_cons hjl]
        rw [List.getElem?_eq_getElem hjl] at hrow
        rw [Option.some.inj hrow]
      have hPj : (P ++ tbl.drop j)[j]? = some row := by rw [← hPl, List.getElem?_append_right (Nat.le_refl _), Nat.sub_self, hPl, hdrop]; rfl
      have hPset : ∀ row', (P ++ tbl.drop j).set j row' = P ++ row' :: tbl.drop (j + 1) := fun row' => by
        rw [hdrop, ← hPl]; exact set_mid P row row' _
      obtain ⟨nr, hrm⟩ := hTab2.row j r row hr hPj
      have hrg : RowGood le zs i row := hgood2 row (by rw [hdrop]; simp)
      have hrl := hrg.len
      have hrmem := List.mem_of_getElem? hr
      have hr156 : 156 < r := Nat.lt_trans hT156 (h156 r hrmem)
      have hr156' : r ≠ 156 := Nat.ne_of_gt hr156
      have hTr : T2 ≠ r := fun q => hnd2.1 (q ▸ hrmem)
      have hrit2 : r ≠ it2 := fun q => hitb _ hrm q
      have hrit : r ≠ it := hrsit r hrmem
      have hT2it2 : T2 ≠ it2 := fun q => hitb _ hTab2.top q
      have h156it2 : 156 ≠ it2 := Nat.ne_of_lt (Nat.lt_trans hT156 (hitb2 (T2, _) (.tail _ hTab.top)))
      k_with "call ref" => ((with_reducible show wpAny _ _ (call (Value.ref sp) _ _) _ _ _); k_dflt (refine' hspec _ _ _ _ _ _ _ _ _ _ _ _ _ _ _ _ _ _ r row nr z.1 z.2 Xj ?B ?F ?X ?N ?T hC ?kk ?d ?u ?D ?rl ?i ?xs ?zz ?x ?as ?_; (case B => k_asm); (case F => k_asm); (case X => k_asm); (case N => k_asm); (case T => k_asm); (case kk => rfl); (case d => k_room); (case u => k_units); (case D => exact .tail _ hrm); (case rl => omega); (case i => exact hI2); (case xs => exact fun q hq => .tail _ (hXj q hq).1); (case zz => exact fun y hy => hIs news _ _ _ (fun p hp h => .tail _ (hK2 p hp h)) (hz y (hrg.sub y hy))); (case x => exact hIs news _ _ _ (fun p hp h => .tail _ (hK2 p hp h)) (hz z hzm)); (case as => exact hrg.asc)); intro k9 t9 h9 tk9 nx9 X9 c9 F9 N9 hk9 hI9 hX9 hX9o; have hrm9 := hk9 _ (List.mem_cons_of_mem _ hrm) hr156'; (try dsimp only); (try k_fold))
      k_with "call builtin:len" => (k_dflt (refine' len_list_K (News.isList ?N ?M) ?S ?l ?_; (case N => k_asm); (case M => exact hrm9); (case S => exact List.length_map _); (case l => omega); k_whole))
      k_with "subscriptTail Name Name ref int" => (k_dflt (refine' item_row (News.isList ?N ?M) ?h1 ?h2 ?_; (case N => k_asm); (case M => exact hrm9); (case h1 => (have := c9.1; omega)); (case h2 => omega); k_whole))
      k_with "setItem ref int" => (have hrk9 : k9 < row.length := (by have := c9.1; omega); k_dflt (refine' set_KF ?F (news_front ?N hrm9) (UpdF.head ?U) ?k ?l ?_; (case F => k_asm); (case N => k_asm); (case U => exact but_ne); (case k => (rw [List.length_map]; exact hrk9)); (case l => (rw [List.length_map]; omega))); intro h8 F8 N8; (try dsimp only); (try k_fold))
      k_with "call builtin:list.append" => (k_dflt (refine' append_KF ?F (news_front ?N hrm9) (UpdF.head ?U) ?l ?_; (case F => k_asm); (case N => k_asm); (case U => exact but_ne); (case l => (rw [List.length_map]; omega))); intro h8 F8 N8; (try dsimp only); (try k_fold))
      k_steps
      · rename Fr _ _ _ _ => F7
        rename News _ _ _ _ => N7
        rename ((_ : Int) = _) => hk7
        have hk7' : k9 = row.length := by omega
        subst hk7'
        have hit9 : (it, o) ∈ nx9 := hk9 _ (.tail _ hio) (Ne.symm h156it)
        have hX9r : ∀ q ∈ X9, q.1 ∉ it :: T2 :: rs := by
          intro q hq hm
          rcases hX9o q hq with ⟨q', hq', e⟩ | hnew
          · exact (hXj q' hq').2 (e ▸ hm)
          · rcases List.mem_cons.mp hm with e | hm
            · have := hnew (it, o) (.tail _ hio); rw [e] at this; exact Nat.lt_irrefl _ this
            · rcases List.mem_cons.mp hm with e | hm
              · have := hnew _ (.tail _ hTab2.top); rw [e] at this; exact Nat.lt_irrefl _ this
              · obtain ⟨jr, hjr, er⟩ := List.getElem_of_mem hm
                have hj2 : jr < (P ++ tbl.drop j).length := by rw [← hTab2.len]; exact hjr
                obtain ⟨n', hm'⟩ := hTab2.row jr q.1 _ (by rw [List.getElem?_eq_getElem hjr, er]) (List.getElem?_eq_getElem hj2)
                have := hnew _ (.tail _ hm'); exact Nat.lt_irrefl _ this
        have hX9r2 : ∀ q ∈ X9, q.1 ≠ r ∧ q.1 ≠ it ∧ q.1 ∉ T2 :: rs := fun q hq => by
          have := hX9r q hq
          rw [List.mem_cons, not_or] at this
          exact ⟨fun e => this.2 (by rw [e]; exact .tail _ hrmem), this.1, this.2⟩
        have hfin : tabIns (ltP lt) z0 tbl = (P ++ tbl.drop j).set j (row ++ [z]) := by rw [htab, hPset, hdrop, (tab_cut c9).1 rfl]
        have T9 : TabAt nx9 T2 nT' rs (P ++ tbl.drop j) := hTab2.keep (S := [156]) (fun p hp hn => hk9 p (.tail _ hp) (by simpa using hn)) (by simp; exact Nat.ne_of_gt hT156) (fun r' hr' => by simp; exact Nat.ne_of_gt (Nat.lt_trans hT156 (h156 r' hr')))
        have T10 := T9.upd (row' := row ++ [z]) (n' := nr + 1) (nx' := (r, listOf ((row ++ [z]).map (·.1)).toArray (nr + 1)) :: but r nx9) hr hnd2.2 hTr (fun p hp hn => .tail _ (mem_but.mpr ⟨hp, hn⟩)) (.head _)
        rw [show row.map (fun x : VN => x.1) ++ [z.1] = (row ++ [z]).map (fun x : VN => x.1) from by simp] at N7
        refine hR7 .brk _ ?_
        (try dsimp only [FrPost])
        k_steps
        refine hR8 .next _ (FrEnd.mk (news' := but it ((r, listOf ((row ++ [z]).map (·.1)).toArray (nr + 1)) :: but r nx9)) F7 (news_sub N7 ?_) but_ne ⟨rfl, rfl, nT', rs, X9, ?_, ?_, hI9, ?_, hnd, h156, ?_⟩)
        · intro p hp
          rcases List.mem_cons.mp hp with rfl | hp
          · exact .tail _ (mem_but.mpr ⟨hit9, Ne.symm hrit⟩)
          · exact (mem_but.mp hp).1
        · rw [hfin]
          exact T10.keep (S := [it]) (fun p hp hn => mem_but.mpr ⟨hp, by simpa using hn⟩) (by simp; exact hT2it) (fun r' hr' => by simp; exact hrsit r' hr')
        · intro p hp hn
          have h1 := hT2 p hp
          have h2 := h156 r hrmem
          exact mem_but.mpr ⟨.tail _ (mem_but.mpr ⟨hk9 p (.tail _ (hK2 p hp hn)) hn, Nat.ne_of_lt (Nat.lt_trans h1 h2)⟩), Nat.ne_of_lt (hit2 p (.tail _ hp))⟩
        · intro q hq
          obtain ⟨a1, a2, a3⟩ := hX9r2 q hq
          exact ⟨mem_but.mpr ⟨.tail _ (mem_but.mpr ⟨hX9 q hq, a1⟩), a2⟩, a3⟩
        · rw [hfin, hPset]
          intro row' hrow'
          rcases List.mem_append.mp hrow' with h3 | h3
          · exact (hgood2 row' (List.mem_append_left _ h3)).up (Nat.le_succ _)
          · rcases List.mem_cons.mp h3 with rfl | h3
            · exact hrg.push hlo hzm c9
            · exact (hgood2 row' (by rw [hdrop]; exact List.mem_append_right _ (List.mem_cons_of_mem _ h3))).up (Nat.le_succ _)
      · rename Fr _ _ _ _ => F7
        rename News _ _ _ _ => N7
        rename (¬ (_ : Int) = _) => hk7
        have hrk : k9 < row.length := by have := c9.1; omega
        have hit9 : (it, o) ∈ nx9 := hk9 _ (.tail _ hio) (Ne.symm h156it)
        have hX9r : ∀ q ∈ X9, q.1 ∉ it :: T2 :: rs := by
          intro q hq hm
          rcases hX9o q hq with ⟨q', hq', e⟩ | hnew
          · exact (hXj q' hq').2 (e ▸ hm)
          · rcases List.mem_cons.mp hm with e | hm
            · have := hnew (it, o) (.tail _ hio); rw [e] at this; exact Nat.lt_irrefl _ this
            · rcases List.mem_cons.mp hm with e | hm
              · have := hnew _ (.tail _ hTab2.top); rw [e] at this; exact Nat.lt_irrefl _ this
              · obtain ⟨jr, hjr, er⟩ := List.getElem_of_mem hm
                have hj2 : jr < (P ++ tbl.drop j).length := by rw [← hTab2.len]; exact hjr
                obtain ⟨n', hm'⟩ := hTab2.row jr q.1 _ (by rw [List.getElem?_eq_getElem hjr, er]) (List.getElem?_eq_getElem hj2)
                have := hnew _ (.tail _ hm'); exact Nat.lt_irrefl _ this
        have hX9r2 : ∀ q ∈ X9, q.1 ≠ r ∧ q.1 ≠ it ∧ q.1 ∉ T2 :: rs := fun q hq => by
          have := hX9r q hq
          rw [List.mem_cons, not_or] at this
          exact ⟨fun e => this.2 (by rw [e]; exact .tail _ hrmem), this.1, this.2⟩
        have T9 : TabAt nx9 T2 nT' rs (P ++ tbl.drop j) := hTab2.keep (S := [156]) (fun p hp hn => hk9 p (.tail _ hp) (by simpa using hn)) (by simp; exact Nat.ne_of_gt hT156) (fun r' hr' => by simp; exact Nat.ne_of_gt (Nat.lt_trans hT156 (h156 r' hr')))
        have hio2 : (it2, o2) ∈ nx9 := hk9 _ (.head _) (Ne.symm h156it2)
        have hX9it2 : ∀ q ∈ X9, q.1 ≠ it2 := fun q hq e => by
          rcases hX9o q hq with ⟨q', hq', e'⟩ | hnew
          · exact hitb q' (hXj q' hq').1 (e'.trans e)
          · have := hnew (it2, o2) (.head _); rw [e] at this; exact Nat.lt_irrefl _ this
        have T10 := T9.upd (row' := row.set k9 z) (n' := nr) (nx' := (r, listOf ((row.set k9 z).map (·.1)).toArray nr) :: but r nx9) hr hnd2.2 hTr (fun p hp hn => .tail _ (mem_but.mpr ⟨hp, hn⟩)) (.head _)
        rw [show (row.map (fun x : VN => x.1)).set k9 z.1 = (row.set k9 z).map (fun x : VN => x.1) from List.map_set.symm] at N7
        rw [hPset] at T10
        have hP' : P ++ row.set k9 z :: tbl.drop (j + 1) = (P ++ [row.set k9 z]) ++ tbl.drop (j + 1) := by simp
        rw [hP'] at T10
        refine hR7 .next _ (FrEnd.mk (news' := but it2 ((r, listOf ((row.set k9 z).map (·.1)).toArray nr) :: but r nx9)) F7 (news_sub N7 ?_) but_ne ⟨rfl, rfl, P ++ [row.set k9 z], row[k9], X9, by simp [hPl], hrg.sub _ (List.getElem_mem hrk), rfl, ?_, ?_, ?_, hI9, ?_, ?_, ?_⟩)
        · intro p hp
          rcases List.mem_cons.mp hp with rfl | hp
          · exact .tail _ (mem_but.mpr ⟨hio2, Ne.symm hrit2⟩)
          · exact (mem_but.mp hp).1
        · rw [htab, hdrop, (tab_cut c9).2 hrk]; simp
        · exact T10.keep (S := [it2]) (fun p hp hn => mem_but.mpr ⟨hp, by simpa using hn⟩) (by simp; exact hT2it2) (fun r' hr' => by
            obtain ⟨jr, hjr, er⟩ := List.getElem_of_mem hr'
            have hj2 : jr < (P ++ tbl.drop j).length := by rw [← hTab2.len]; exact hjr
            obtain ⟨n', hm'⟩ := hTab2.row jr r' _ (by rw [List.getElem?_eq_getElem hjr, er]) (List.getElem?_eq_getElem hj2)
            simp; exact hitb _ hm')
        · intro p hp hn
          have h1 := hT2 p hp
          have h2 := h156 r hrmem
          exact mem_but.mpr ⟨.tail _ (mem_but.mpr ⟨hk9 p (.tail _ (hK2 p hp hn)) hn, Nat.ne_of_lt (Nat.lt_trans h1 h2)⟩), hitb p (hK2 p hp hn)⟩
        · intro q hq
          obtain ⟨a1, a2, a3⟩ := hX9r2 q hq
          exact ⟨mem_but.mpr ⟨.tail _ (mem_but.mpr ⟨hX9 q hq, a1⟩), hX9it2 q hq⟩, hX9r q hq⟩
        · exact mem_but.mpr ⟨.tail _ (mem_but.mpr ⟨hit9, Ne.symm hrit⟩), hitb _ hio⟩
        · intro row' hrow'
          rw [← hP'] at hrow'
          rcases List.mem_append.mp hrow' with h3 | h3
          · exact hgood2 row' (List.mem_append_left _ h3)
          · rcases List.mem_cons.mp h3 with rfl | h3
            · exact hrg.set hlo hzm hrk c9
            · exact hgood2 row' (by rw [hdrop]; exact List.mem_append_right _ (List.mem_cons_of_mem _ h3))
    case done2 =>
      rintro m₂ nx2 h tk ⟨hs3, hs4, P, z, Xj, hPl, hzm, hleft, htab, hTab2, hK2, hI2, hXj, hio, hgood2⟩ F N
      have hlen2 : (rs.map Value.ref).length = tbl.length := by rw [List.length_map]; exact hTab.len
      rw [hlen2] at hPl
      rw [hlen2, List.drop_length, List.append_nil] at hTab2 hgood2
      rw [hlen2, List.drop_length] at htab
      have hfin : tabIns (ltP lt) z0 tbl = P ++ [[z]] := htab
      have hrs100 : rs.length < 500 := by
        have e1 := hTab.len
        simp at htl
        omega
      have hN := hTab2.top
      k_with "call builtin:list.append" => (k_dflt (refine' append_KF ?F (news_front ?N (.tail _ hN)) (UpdF.head ?U) ?l ?_; (case F => k_asm); (case N => k_asm); (case U => exact but_ne); (case l => (rw [List.length_map]; omega))); intro h8 F8 N8; (try dsimp only); (try k_fold))
      k_with "newList" => (k_dflt (refine' newList_K ?F ?N ?_; (case F => k_asm); (case N => k_asm)); intro l6 h6 F6 N6 hl6; (try dsimp only); (try k_fold))
      have fin : ∀ {l6 : Addr} {hX : Heap} {tX : Nat} {h7 : Heap} {m7 : Str → Option Value} {tk7 : Nat} {zv : Value}, z.1 = zv → (∀ p ∈ nx2, p.1 < l6) → Fr g1 L1 h7 m7 → News g1 L1 h7 ((T2, listOf (rs.map Value.ref ++ [Value.ref l6]).toArray (nT' + 1)) :: but T2 ((l6, listOf [zv].toArray 0) :: nx2)) → m7 (Str.ofString "spot") = some (.ref sp) → m7 (Str.ofString "table") = some (.ref T2) →
          FrEnd g1 L1 { s with heap := hX, toks := tX } (fun mm nx => mm (Str.ofString "spot") = some (.ref sp) ∧ mm (Str.ofString "table") = some (.ref T2) ∧ ∃ nT' rs Xi, TabAt nx T2 nT' rs (tabIns (ltP lt) z0 tbl) ∧
            (∀ p ∈ news, p.1 ≠ 156 → p ∈ nx) ∧ I Xi ∧ (∀ q ∈ Xi, q ∈ nx ∧ q.1 ∉ T2 :: rs) ∧ (T2 :: rs).Nodup ∧ (∀ r ∈ rs, T2 < r) ∧ (∀ row ∈ tabIns (ltP lt) z0 tbl, RowGood le zs (i + 1) row)) it o { s with heap := h7, toks := tk7 } := by
        intro l6 hX tX h7 m7 tk7 zv ezv hl6 F7 N7 e1 e2
        have hT6 : T2 < l6 := hl6 _ hN
        have hr6 : ∀ r' ∈ rs, r' < l6 := fun r' hr' => by
          obtain ⟨jr, hjr, er⟩ := List.getElem_of_mem hr'
          have hj2 : jr < P.length := by rw [← hTab2.len]; exact hjr
          obtain ⟨n', hm'⟩ := hTab2.row jr r' _ (by rw [List.getElem?_eq_getElem hjr, er]) (List.getElem?_eq_getElem hj2)
          exact hl6 _ hm'
        have hit6 : it < l6 := hl6 _ hio
        subst ezv
        rw [show rs.map Value.ref ++ [Value.ref l6] = (rs ++ [l6]).map Value.ref from by simp] at N7
        refine ⟨_, _, _, but it ((T2, listOf ((rs ++ [l6]).map Value.ref).toArray (nT' + 1)) :: but T2 ((l6, listOf [z.1].toArray 0) :: nx2)), rfl, F7, news_sub N7 ?_, but_ne, e1, e2, nT' + 1, rs ++ [l6], Xj, ?_, ?_, hI2, ?_, ?_, ?_, ?_⟩
        · intro p hp
          rcases List.mem_cons.mp hp with rfl | hp
          · exact .tail _ (mem_but.mpr ⟨.tail _ hio, Ne.symm hT2it⟩)
          · exact (mem_but.mp hp).1
        · rw [hfin]
          refine ⟨mem_but.mpr ⟨.head _, hT2it⟩, by simp [hTab2.len], fun jr r' row' h3 h4 => ?_⟩
          by_cases hjr : jr < rs.length
          · rw [List.getElem?_append_left hjr] at h3
            rw [List.getElem?_append_left (by rw [← hTab2.len]; exact hjr)] at h4
            obtain ⟨n', hm'⟩ := hTab2.row jr r' row' h3 h4
            have hm2 := List.mem_of_getElem? h3
            exact ⟨n', mem_but.mpr ⟨.tail _ (mem_but.mpr ⟨.tail _ hm', fun q => hnd2.1 (q ▸ hm2)⟩), hrsit r' hm2⟩⟩
          · rw [List.getElem?_append_right (by omega)] at h3
            rw [List.getElem?_append_right (by rw [← hTab2.len]; omega)] at h4
            rw [← hTab2.len] at h4
            have ej : jr - rs.length = 0 := by
              have := (List.getElem?_eq_some_iff.mp h3).1
              simp at this; omega
            rw [ej] at h3 h4
            cases h3; cases h4
            exact ⟨0, mem_but.mpr ⟨.tail _ (mem_but.mpr ⟨.head _, Nat.ne_of_gt hT6⟩), Nat.ne_of_gt hit6⟩⟩
        · intro p hp hn
          exact mem_but.mpr ⟨.tail _ (mem_but.mpr ⟨.tail _ (hK2 p hp hn), Nat.ne_of_lt (hT2 p hp)⟩), Nat.ne_of_lt (hit2 p (.tail _ hp))⟩
        · intro q hq
          obtain ⟨a1, a2⟩ := hXj q hq
          rw [List.mem_cons, not_or] at a2
          have a3 := a2.2
          rw [List.mem_cons, not_or] at a3
          refine ⟨mem_but.mpr ⟨.tail _ (mem_but.mpr ⟨.tail _ a1, a3.1⟩), a2.1⟩, ?_⟩
          rw [List.mem_cons, not_or, List.mem_append, not_or]
          exact ⟨a3.1, a3.2, by simp; exact Nat.ne_of_lt (hl6 q a1)⟩
        · rw [List.nodup_cons, List.mem_append, not_or, List.nodup_append]
          refine ⟨⟨hnd2.1, by simp; exact Nat.ne_of_lt hT6⟩, hnd2.2, by simp, fun a ha b hb => ?_⟩
          rw [List.mem_singleton.mp hb]; exact Nat.ne_of_lt (hr6 a ha)
        · intro r' hr'
          rcases List.mem_append.mp hr' with h3 | h3
          · exact h156 r' h3
          · rw [List.mem_singleton.mp h3]; exact hT6
        · rw [hfin]
          intro row' hrow'
          rcases List.mem_append.mp hrow' with h3 | h3
          · exact (hgood2 row' h3).up (Nat.le_succ _)
          · rw [List.mem_singleton.mp h3]
            exact ⟨by simp [hzm], List.pairwise_singleton _ _, by simp⟩
      rcases hvv z hzm with ⟨az, ez⟩ | ⟨xz, tz, ez⟩
      · rw [ez] at hleft
        have F := fr_mset (l := [(Str.ofString "spot", some (.ref sp)), (Str.ofString "table", some (.ref T2)), (Str.ofString "left", some (.ref az))]) F (by simp [hs3, hs4, hleft])
        k_steps
        exact hR8 .next _ (fin ez (by assumption) (by assumption) (by assumption) rfl rfl)
      · rw [ez] at hleft
        have F := fr_mset (l := [(Str.ofString "spot", some (.ref sp)), (Str.ofString "table", some (.ref T2)), (Str.ofString "left", some (.str xz tz))]) F (by simp [hs3, hs4, hleft])
        k_steps
        exact hR8 .next _ (fin ez (by assumption) (by assumption) (by assumption) rfl rfl)
  case done =>
    rintro mm nx h tk ⟨hs1, hs2, nT', rs, Xi, hTab, hK, hI1, hXi, hnd, h156, hgood⟩ F N
    (try dsimp only)
    have F := fr_mset (l := [(Str.ofString "spot", some (.ref sp)), (Str.ofString "table", some (.ref T2))]) F (by simp [hs1, hs2])
    k_steps
    refine hR0 _ _ ?_
    (try dsimp only)
    k_steps
    rw [show (zs.map (fun x : VN => x.1)).length = zs.length from List.length_map _, List.take_length] at hTab hgood
    exact hret _ _ _ _ _ _ _ hTab hK hI1 (fun q hq => (hXi q hq).1) hT2 h156 hgood (by assumption) (by assumption)
end
end Mine
end PartC6

section PartC7
open PySem PySem.W PyProof.Rows PySem.Spec PySem.Calls
set_option linter.unusedVariables false
namespace Mine
/-- at or before -/
def sLe (a b : Str) : Bool := !sLt b a
theorem sLe_tr {a b c : Str} (h : sLe a b = true) (h' : sLe b c = true) : sLe a c = true := by
  simp only [sLe, Bool.not_eq_true'] at h h' ⊢
  cases e : sLt c a with
  | false => rfl
  | true =>
    by_cases q : b = c
    · subst q; rw [h] at e; cases e
    · have h1 : sLt b c = true := (sLt_strict.tri b c q).resolve_right (by rw [h']; simp)
      have := sLt_strict.trans _ _ _ h1 e
      rw [h] at this; cases this
theorem sLe_of {a b : Str} (h : sLt a b = true) : sLe a b = true := by
  simp only [sLe, Bool.not_eq_true']; exact sLt_strict.not h
theorem lt_le_tr {a b c : Str} (h : sLe a b = true) (h' : sLt b c = true) : sLt a c = true := by
  by_cases q : a = b
  · subst q; exact h'
  · have : sLt a b = true := (sLt_strict.tri a b q).resolve_right (by simp only [sLe, Bool.not_eq_true'] at h; rw [h]; simp)
    exact sLt_strict.trans _ _ _ this h'
theorem le_lt_tr {a b c : Str} (h : sLt a b = true) (h' : sLe b c = true) : sLt a c = true := by
  by_cases q : b = c
  · subst q; exact h
  · have : sLt b c = true := (sLt_strict.tri b c q).resolve_right (by simp only [sLe, Bool.not_eq_true'] at h'; rw [h']; simp)
    exact sLt_strict.trans _ _ _ h this
theorem leOf_bare : LeOf sLe sLe := by
  refine ⟨fun _ _ h => h, fun x y h => ?_, fun _ _ _ => sLe_tr, fun x y z h h' => sLe_tr h' h⟩
  simp only [sLe, Bool.not_eq_false'] at h
  exact sLe_of h
theorem leOf_braced : LeOf bLt (fun a b => sLe (br a) (br b)) := by
  refine ⟨fun _ _ h => sLe_of h, fun x y h => ?_, fun _ _ _ => sLe_tr, fun x y z h h' => le_lt_tr h' h⟩
  simp only [bLt] at h
  simp only [sLe, Bool.not_eq_true']; exact h

theorem Cut.congr {q q' : Nat → Bool} {n k : Nat} (h : Cut q n k) (e : ∀ i, i < n → q i = q' i) : Cut q' n k :=
  ⟨h.1, fun i hi => by rw [← e i (by have := h.1; omega)]; exact h.2.1 i hi, fun i h1 h2 => by rw [← e i h2]; exact h.2.2 i h1 h2⟩

theorem strs_row : ∀ {row : Row}, (∀ z ∈ row, ∃ t, z.1 = .str z.2 t) → StrsAre (row.map (·.1)) (row.map (·.2))
  | [], _ => .nil
  | z :: row, h => by
    obtain ⟨t, e⟩ := h z List.mem_cons_self
    rw [List.map_cons, List.map_cons, e]
    exact .cons _ _ (strs_row fun y hy => h y (List.mem_cons_of_mem _ hy))
theorem getD_row {row : Row} {i : Nat} (h : i < row.length) (d : Str) (d' : VN) : (row.map (·.2)).getD i d = (row.getD i d').2 := by
  simp [List.getD_eq_getElem?_getD, h]

section
variable {w : World} {p : Program} {loose : List Str} {mean : ExcName → Option Value} {mg mb : Str → Option Value} {dp un : Nat} {gd : Option (List Code)} {cn : Str} {cs : Scope} {a : Addr} {ccd : Value} {cl : List (Str × Addr)} {outer : List Env} {A₀ : Around} {base h₀ : Heap} {L : Addr} {m : Str → Option Value} {news : List (Addr × Obj)} {s : Shared} {Q E : Value → Shared → Prop}


set_option maxRecDepth 100000 in
set_option maxHeartbeats 8000000 in
theorem bare_spot {X₁ : List (Addr × Obj)} : SpotSpec w p loose mean mg mb 168 (fun X => X = X₁) (fun _ v x => ∃ t, v = .str x t) sLe sLe := by
  intro dp un gd cn cs a ccd cl outer A₀ base h₀ L m news s Q E D row n v x X₀ B F X N T hC hk hd hu hD hrl hX0 hX0s hz hv has hret
  obtain ⟨tv, rfl⟩ := hv
  obtain ⟨ck, cnm, cg, cc, cm⟩ := cs
  have hk' : ck = .function := hk
  subst hk'
  have hs := strs_row hz
  have hm : ∀ i j : Nat, i ≤ j → j < (row.map (·.2)).length → sLt ((row.map (·.2)).getD j Str.empty) x = true → sLt ((row.map (·.2)).getD i Str.empty) x = true := by
    intro i j hij hj h
    have hj' : j < row.length := by simpa using hj
    rw [getD_row (by omega) _ default] at h ⊢
    rw [List.getD_eq_getElem?_getD, List.getElem?_eq_getElem (by omega), Option.getD_some] at h ⊢
    by_cases e : i = j
    · subst e; exact h
    · exact lt_le_tr (List.pairwise_iff_getElem.mp has i j (by omega) hj' (by omega)) h
  w_top off
  k_with_none
  k_with "call ref" => ((with_reducible show wpAny _ _ (call (Value.ref 50) _ _) _ _ _); k_dflt (refine' bisect_left_K2 ?B ?F ?X ?N ?T ?kk ?d ?D ?S ?l ?m ?_; (case B => k_asm); (case F => k_asm); (case X => k_asm); (case N => k_asm); (case T => k_asm); (case kk => rfl); (case d => k_room); (case D => exact hD); (case S => exact hs); (case l => (rw [List.length_map]; omega)); (case m => exact hm)); intro k9 t9 h9 tk9 c9 F9 N9; (try dsimp only); (try k_fold))
  revert X; k_fill; intro X
  refine wpAny_call ?_
  k_dflt k_enter
  refine wp_hold ?_
  intro R0 X0 hR0
  k_steps
  refine hR0 _ _ ?_
  (try dsimp only)
  k_steps
  rw [List.length_map] at c9
  subst hX0
  exact hret _ _ _ _ _ X₀ (c9.congr fun i hi => by rw [getD_row hi _ default]; simp [sLe]) (by assumption) (by assumption) (fun p hp _ => hp) rfl hX0s (fun q hq => .inl ⟨q, hq, rfl⟩)
end
end Mine
end PartC7

section PartC8
open PySem PySem.W PyProof.Rows PySem.Spec PySem.Calls
set_option linter.unusedVariables false
namespace Mine
def lamName : Str := Str.ofString "_law_braced_spot" ++ Str.ofString ".<locals>." ++ Str.ofString "<lambda>"
def SpotI (X : List (Addr × Obj)) : Prop := X = [(156, tabObj #[])] ∨ ∃ c' oc vs t, X = [(156, tabObj #[rawInt 122, rawInt 35, .ref c']), (c', oc)] ∧ oc.data = .fields vs ∧ vs[1]? = some (.str lamName t)
/-- a QName of that name -/
def IsQ6 (w : World) (news : List (Addr × Obj)) (v : Value) (x : Str) : Prop := ∃ q d k t, v = .ref q ∧ (q, instObj 145 d) ∈ news ∧ (d, qd w (br x) k t) ∈ news ∧ q ≠ 156 ∧ d ≠ 156
section
variable {w : World} {p : Program} {loose : List Str} {mean : ExcName → Option Value} {mg mb : Str → Option Value} {dp un : Nat} {gd : Option (List Code)} {cn : Str} {cs : Scope} {a : Addr} {ccd : Value} {cl : List (Str × Addr)} {outer : List Env} {A₀ : Around} {base h₀ : Heap} {L : Addr} {m : Str → Option Value} {news : List (Addr × Obj)} {s : Shared} {Q E : Value → Shared → Prop}

local macro_rules | `(tactic| walk_at $s:str) => `(tactic| k_extra $s)

def sgn (a b : Str) : Int := b2i (decide (b.cps.toList < a.cps.toList)) - b2i (decide (a.cps.toList < b.cps.toList))
theorem allLt_to {d : Addr} : ∀ {l : List (Addr × Obj)}, AllLt d l → ∀ p ∈ l, p.1 < d
  | [], _, _, h => nomatch h
  | q :: l, h, p, hp => by
    rcases List.mem_cons.mp hp with rfl | hp
    · exact h.1
    · exact allLt_to h.2 p hp
theorem two_sgn (a b : Str) : sgn b a - sgn a b < 2 ↔ sLt a b = false := by
  unfold sgn sLt
  by_cases h1 : a.cps.toList < b.cps.toList
  · have h2 : ¬ b.cps.toList < a.cps.toList := fun h => lt_irr _ (lt_tr h1 h)
    simp [h1, h2, b2i]
  · by_cases h2 : b.cps.toList < a.cps.toList
    · simp [h1, h2, b2i]
    · simp [h1, h2, b2i]

set_option maxRecDepth 100000 in
set_option maxHeartbeats 8000000 in
theorem strcoll_Q {q₁ d₁ q₂ d₂ : Addr} {x y : Str} {k₁ t₁ k₂ t₂ : Tok} (B : Below A₀ base outer h₀) (F : Fr h₀ L s.heap m) (X : (Mine.hd.heap_39 w.params).In h₀) (N : News h₀ L s.heap news) (T : Top p loose mean mg mb h₀) (hk : cs.kind = .function)
    (hd : dp + 5 < recursionLimit) (hu : un + 20 < cLine) (h1 : (q₁, instObj 145 d₁) ∈ news) (h2 : (d₁, qd w x k₁ t₁) ∈ news) (h3 : (q₂, instObj 145 d₂) ∈ news) (h4 : (d₂, qd w y k₂ t₂) ∈ news)
    (hret : ∀ t h' tk', Fr h₀ L h' m → News h₀ L h' news → Q (.int (sgn x y) t) { s with heap := h', toks := tk' }) :
    wpAny (model PySem.Challenge.rw_wu0067_01.row.prog w) (ktrTop dp un gd cn cs L a ccd cl outer) (call (.ref 57) [.ref q₁, .ref q₂]) Q E s := by
  obtain ⟨ck, cnm, cg, cc, cm⟩ := cs
  have hk' : ck = .function := hk
  subst hk'
  w_top off
  k_with_none
  revert X; k_fill; intro X
  refine wpAny_call ?_
  k_dflt k_enter
  refine wp_holdE (by first | passes_own | with_unfolding_all passes_own) ?_
  intro R0 X0 hR0 hE0
  k_steps
  refine hR0 _ _ ?_
  (try dsimp only)
  k_steps
  exact hret _ _ _ (by assumption) (by assumption)

/-- the lambda is made, its code record made now or before -/
theorem lam_any {M : Model} {A : Around} {E : Value → Shared → Prop} {s : Shared} {h₀ : Heap} {L a l1 : Addr} {m mg mb : Str → Option Value} {cn : Str} {cs : Scope} {ccd : Value} {cl : List (Str × Addr)} {p : Program} {loose : List Str} {mean : ExcName → Option Value}
    {params : Arguments} {body : Expr} {scope : Scope} {el ec : Nat} {clos : List (Str × Addr)} {ps : Array Value} {o1 : Obj} {rest : List (Addr × Obj)} {Q : Value → Shared → Prop} {K : Addr → Prop}
    (F : Fr h₀ L s.heap m) (N : News h₀ L s.heap ((l1, o1) :: (156, tabObj ps) :: rest)) (T : Top p loose mean mg mb h₀) (C : CodeHd h₀ 160 156) (hcd : ccd = .ref 160) (hl : l1 ≠ 156) (hr : ∀ q ∈ rest, q.1 ≠ 156)
    (hp : ps = #[] ∨ ∃ c' oc vs t, ps = #[rawInt 122, rawInt 35, .ref c'] ∧ (c', oc) ∈ rest ∧ oc.data = .fields vs ∧ vs[1]? = some (.str lamName t) ∧ K c')
    (hdef : defaultsOf params (envX cn cs L a ccd cl) = ([], [])) (hcl : closureFor scope (envX cn cs L a ccd cl) = pure clos) (hq : (envX cn cs L a ccd cl).qual ++ Str.ofString "<lambda>" = lamName)
    (h : ∀ f c' oc vs t ctv h' tk, Fr h₀ L h' m → News h₀ L h' ((f, kla_obj (Str.ofString "<lambda>") lamName params body scope clos ((mg "__name__").getD .none) c' ctv) :: (c', oc) :: (l1, o1) :: (156, tabObj #[rawInt 122, rawInt 35, .ref c']) :: rest) →
      oc.data = .fields vs → vs[1]? = some (.str lamName t) → (K c' ∨ (156 < c' ∧ ∀ q ∈ rest, q.1 < c')) → Q (.ref f) { s with heap := h', toks := tk }) :
    wpAny M A (eval (.Lambda params body scope { line := 122, col := 35, endLine := el, endCol := ec }) (envX cn cs L a ccd cl)) Q E s := by
  refine kla_eval hdef ?_
  show wpAny M A (makeFunction (Str.ofString "<lambda>") ((envX cn cs L a ccd cl).qual ++ Str.ofString "<lambda>") params (.expr body) scope (envX cn cs L a ccd cl) [] [] [] _ _) Q E s
  rw [hq]
  rcases hp with rfl | ⟨c', oc, vs, t, rfl, hm, hd, hv, hK⟩
  · refine kla_nest F N T C hcd (UpdF.tail hl (UpdF.head hr)) (by kn_triples) (by kn_among) hcl ?_
    intro f c' oc vs t ctv h' tk F' N' hd hv hlt hcf
    exact h f c' oc vs t ctv h' tk F' N' hd hv (.inr ⟨hlt _ (.tail _ (.head _)), fun q hq => hlt q (.tail _ (.tail _ hq))⟩)
  · refine kla_hit (c' := c') F N T C hcd (.tail _ (.head _)) (by kn_triples) (by kn_hit) hcl ?_
    intro f ctv h' tk F' N' hlt
    refine h f c' oc vs t ctv h' tk F' (news_sub N' fun q hq => ?_) hd hv (.inl hK)
    rcases List.mem_cons.mp hq with rfl | hq
    · exact .head _
    · rcases List.mem_cons.mp hq with rfl | hq
      · exact .tail _ (.tail _ (.tail _ hm))
      · exact .tail _ hq

set_option maxRecDepth 100000 in
set_option maxHeartbeats 8000000 in
theorem braced_spotK :
  ∀ (dp un : Nat) (gd : Option (List Code)) (cn : Str) (cs : Scope) (a : Addr) (ccd : Value) (cl : List (Str × Addr)) (outer : List Env) (A₀ : Around) (base h₀ : Heap) (L : Addr) (m : Str → Option Value) (news : List (Addr × Obj)) (s : Shared) (Q E : Value → Shared → Prop)
    (D : Addr) (row : Row) (n : Nat) (v : Value) (x : Str) (X₀ : List (Addr × Obj)),
    Below A₀ base outer h₀ → Fr h₀ L s.heap m → (Mine.hd.heap_39 w.params).In h₀ → News h₀ L s.heap news → Top p loose mean mg mb h₀ → CodeHd base 160 156 → cs.kind = .function → dp + 40 < recursionLimit → un + 100 < cLine →
    (D, listOf (row.map (·.1)).toArray n) ∈ news → row.length < 200 → SpotI X₀ → (∀ q ∈ X₀, q ∈ news) → (∀ z ∈ row, IsQ6 w news z.1 z.2) → IsQ6 w news v x → row.Pairwise (fun a b => sLe (br a.2) (br b.2) = true) →
    (∀ k t h' tk' news' X', Cut (fun i => !bLt x (row.getD i default).2) row.length k → Fr h₀ L h' m → News h₀ L h' news' → (∀ p ∈ news, p.1 ≠ 156 → p ∈ news') → SpotI X' → (∀ q ∈ X', q ∈ news') → (∀ q ∈ X', (∃ q' ∈ X₀, q'.1 = q.1) ∨ ∀ q' ∈ news, q'.1 < q.1) → Q (.int (k : Nat) t) { s with heap := h', toks := tk' }) →
    wpAny (model PySem.Challenge.rw_wu0067_01.row.prog w) (ktrTop dp un gd cn cs L a ccd cl outer) (call (.ref 161) [.ref D, v]) Q E s := by
  intro dp un gd cn cs a ccd cl outer A₀ base h₀ L m news s Q E D row n v x X₀ B F X N T hC hk hd hu hD hrl hX0 hX0s hz hv has hret
  obtain ⟨qv, dv, kv, tv, rfl, hv1, hv2, hv3, hv4⟩ := hv
  obtain ⟨ck, cnm, cg, cc, cm⟩ := cs
  have hk' : ck = .function := hk
  subst hk'
  have hD156 : ∀ o, (156, o) ∈ news → D ≠ 156 ∨ o.cls = .type "list" := by
    intro o ho
    by_cases e : D = 156
    · right
      have h1 := (N _ ho).1
      have h2 := (N _ hD).1
      rw [e] at h2
      dsimp only at h1 h2
      rw [h1] at h2
      rw [Option.some.inj h2]
    · exact .inl e
  have hsq : D ≠ 156 → QsAre w (but 156 news) (row.map (·.1)) (row.map fun z => br z.2) := fun _ => by
    refine ⟨by simp, fun i v tx h1 h2 => ?_⟩
    rw [List.getElem?_map] at h1 h2
    cases e : row[i]? with
    | none => rw [e] at h1; cases h1
    | some z =>
      rw [e] at h1 h2
      cases h1; cases h2
      obtain ⟨q, d, k, t, e1, h1, h2, h3, h4⟩ := hz z (List.mem_of_getElem? e)
      exact ⟨q, d, k, t, e1, mem_but.mpr ⟨h1, h3⟩, mem_but.mpr ⟨h2, h4⟩⟩
  have hm : ∀ i j : Nat, i ≤ j → j < (row.map fun z => br z.2).length → (!sLt (br x) ((row.map fun z => br z.2).getD j Str.empty)) = true → (!sLt (br x) ((row.map fun z => br z.2).getD i Str.empty)) = true := by
    intro i j hij hj h
    have hj' : j < row.length := by simpa using hj
    have hi' : i < row.length := by omega
    have ej : (row.map fun z => br z.2).getD j Str.empty = br row[j].2 := by simp [List.getD_eq_getElem?_getD, hj']
    have ei : (row.map fun z => br z.2).getD i Str.empty = br row[i].2 := by simp [List.getD_eq_getElem?_getD, hi']
    rw [ej] at h; rw [ei]
    by_cases e : i = j
    · subst e; exact h
    · exact sLe_tr (List.pairwise_iff_getElem.mp has i j hi' hj' (by omega)) h
  have hlenq : (row.map fun z => br z.2).length = row.length := by simp
  have hv1' := mem_but.mpr ⟨hv1, hv3⟩
  have hv2' := mem_but.mpr ⟨hv2, hv4⟩
  w_top off
  k_with_none
  k_with "exec While Compare cons nil" => ((rename Fr _ _ _ _ => lF'); (rename News _ _ _ _ => lN'); (with_unfolding_all refine' while_lohi (Bis (fun i => !sLt (br x) ((row.map fun z => br z.2).getD i Str.empty)) row.length) lF' lN' ?wa ?wb ?wc ?wd ?we); (case wa => rfl); (case wb => rfl); (case wc => exact Bis.start rfl rfl); (case we => first | assumption | passes_own | with_unfolding_all passes_own); (case' wd => (clear lF' lN'; intro lo hi t t' u h tk R8 X8 hR8 hX8 hP F' N'; have hP1 := hP.h0; have hP2 := hP.h1; have hP3 := hP.h2)); (try dsimp only); (try k_fold))
  k_with "call ref" => ((with_reducible show wpAny _ _ (call (Value.ref 57) _ _) _ _ _); k_dflt (refine' strcoll_Q ?B ?F ?X ?N ?T ?kk ?d ?u ?h1 ?h2 ?h3 ?h4 ?_; (case B => k_asm); (case F => k_asm); (case X => k_asm); (case N => k_asm); (case T => k_asm); (case kk => rfl); (case h1 => k_mem); (case h2 => k_mem); (case h3 => k_mem); (case h4 => k_mem); (case d => k_room); (case u => k_units)); intro tq hq tkq Fq Nq; (try dsimp only); (try k_fold))
  obtain ⟨ps, h156, hps, hX156⟩ : ∃ ps, ((156 : Addr), tabObj ps) ∈ news ∧ (ps = #[] ∨ ∃ c' oc vs t, ps = #[rawInt 122, rawInt 35, .ref c'] ∧ (c', oc) ∈ but 156 news ∧ oc.data = .fields vs ∧ vs[1]? = some (.str lamName t) ∧ ∃ q' ∈ X₀, q'.1 = c') ∧ ∃ q' ∈ X₀, q'.1 = 156 := by
    rcases hX0 with rfl | ⟨c', oc, vs, t, rfl, hoc, hvs⟩
    · exact ⟨_, hX0s _ (.head _), .inl rfl, _, .head _, rfl⟩
    · have h156 := hX0s _ (List.mem_cons_self)
      have hc'm : (c', oc) ∈ news := hX0s _ (by simp)
      refine ⟨_, h156, .inr ⟨c', oc, vs, t, rfl, mem_but.mpr ⟨hc'm, fun q => ?_⟩, hoc, hvs, _, .tail _ (.head _), rfl⟩, _, .head _, rfl⟩
      dsimp only at q
      have h1 := (N _ h156).1
      have h2 := (N _ hc'm).1
      dsimp only at h1 h2
      rw [q, h1] at h2
      have e := Option.some.inj h2
      rw [← e] at hoc
      cases hoc
      simp [rawInt] at hvs
  have hDn : D ≠ 156 := (hD156 _ h156).resolve_right (by intro q; cases q)
  have hDb := mem_but.mpr ⟨hD, hDn⟩
  have hs := hsq hDn
  k_with "call builtin:len" => (k_dflt (refine' len_list_K (News.isList ?N ?M) ?S ?l ?_; (case N => k_asm); (case M => k_mem); (case S => exact List.length_map _); (case l => omega); k_whole))
  k_with "subscriptTail Name Name ref int" => (k_dflt (refine' item_Q (News.isList ?N ?M) hs ?h0 ?h1 ?h2 ?_; (case N => k_asm); (case M => k_mem); (case h0 => (have := mid_bounds (by assumption) hP1; omega)); (case h1 => (rw [hlenq]; have := mid_bounds (by assumption) hP1; omega)); (case h2 => (have := mid_bounds (by assumption) hP1; omega)); k_whole); intro q9 d9 k9 t9 hq91 hq92)
  have fin : ∀ {f c' l1 : Addr} {fo oc o1 : Obj} {vs : Array Value} {t tt tk7 : Nat} {h7 : Heap} {k : Nat}, oc.data = .fields vs → vs[1]? = some (.str lamName t) → ((∃ q' ∈ X₀, q'.1 = c') ∨ (156 < c' ∧ ∀ q ∈ but 156 news, q.1 < c')) → Cut (fun i => !sLt (br x) ((row.map fun z => br z.2).getD i Str.empty)) row.length k →
      Fr h₀ L h7 m → News h₀ L h7 ((f, fo) :: (c', oc) :: (l1, o1) :: (156, tabObj #[rawInt 122, rawInt 35, .ref c']) :: but 156 news) → Q (.int k tt) { s with heap := h7, toks := tk7 } := by
    intro f c' l1 fo oc o1 vs t tt tk7 h7 k g1 g2 g3 c F7 N7
    refine hret _ _ _ _ _ [(156, tabObj #[rawInt 122, rawInt 35, .ref c']), (c', oc)] (c.congr fun i hi => ?_) F7 N7 (fun p hp hn => ?_) (.inr ⟨_, _, _, _, rfl, g1, g2⟩) (fun q hq => ?_) (fun q hq => ?_)
    · rw [show (row.map fun z => br z.2).getD i Str.empty = br (row.getD i default).2 from by simp [List.getD_eq_getElem?_getD, hi]]
      rfl
    · exact .tail _ (.tail _ (.tail _ (.tail _ (mem_but.mpr ⟨hp, hn⟩))))
    · rcases List.mem_cons.mp hq with rfl | hq
      · exact .tail _ (.tail _ (.tail _ (.head _)))
      · rw [List.mem_singleton.mp hq]; exact .tail _ (.head _)
    · rcases List.mem_cons.mp hq with rfl | hq
      · exact .inl hX156
      · rw [List.mem_singleton.mp hq]
        rcases g3 with g3 | ⟨g3, g4⟩
        · exact .inl g3
        · refine .inr fun q' hq' => ?_
          by_cases e : q'.1 = 156
          · rw [e]; exact g3
          · exact g4 q' (mem_but.mpr ⟨hq', e⟩)
  have N := news_front N h156
  k_with "eval Lambda" => (k_dflt (refine lam_any (K := fun c' => ∃ q' ∈ X₀, q'.1 = c') (by k_asm) (by k_asm) (by k_asm) (by kn_code) (by rfl) (Nat.ne_of_gt (Nat.lt_succ_of_lt hl8.1)) but_ne hps (by rfl) (by rfl) (by rfl) ?_); intro f9 c9 oc9 vs9 t9 ct9 hh9 tk9 F9 N9 hd9 hv9 hK9; (try dsimp only); (try k_fold))
  revert X; k_fill; intro X
  refine wpAny_call ?_
  k_dflt k_enter
  rename (_ ∧ AllLt _ _) => hl8
  refine wp_holdE (by first | passes_own | with_unfolding_all passes_own) ?_
  intro R0 X0 hR0 hE0
  k_steps
  · refine hR8 .next _ ⟨_, _, _, _, _, _, _, rfl, by assumption, by assumption, rfl, rfl, fun z h1 h2 h3 => ?_, Bis.up (fun i j h1 h2 => hm i j h1 (by rw [hlenq]; exact h2)) hP (by assumption) ?_, ?_, ?_⟩
    · simp [h1, h2, h3]
    · rw [Bool.not_eq_true']; exact (two_sgn _ _).mp (by assumption)
    · have := mid_bounds (by assumption) hP1; omega
    · have := mid_bounds (by assumption) hP1; omega
  · refine hR8 .next _ ⟨_, _, _, _, _, _, _, rfl, by assumption, by assumption, rfl, rfl, fun z h1 h2 h3 => ?_, Bis.down (fun i j h1 h2 => hm i j h1 (by rw [hlenq]; exact h2)) hP (by assumption) ?_, ?_, ?_⟩
    · simp [h1, h2, h3]
    · rename (¬ (sgn _ _ - sgn _ _ < 2)) => hc
      rw [Bool.not_eq_false']
      exact (Bool.not_eq_false _).mp fun q => hc ((two_sgn _ _).mpr q)
    · have := mid_bounds (by assumption) hP1; omega
    · have := mid_bounds (by assumption) hP1; omega
  · refine hR0 _ _ ?_
    (try dsimp only)
    k_steps
    obtain ⟨e, c⟩ := hP.done (by assumption)
    rw [e]
    rename News _ _ _ _ => N7
    exact fin hd9 hv9 hK9 c (by assumption) N7

theorem braced_spot : SpotSpec w p loose mean mg mb 161 SpotI (IsQ6 w) bLt (fun a b => sLe (br a) (br b)) := by
  intro dp un gd cn cs a ccd cl outer A₀ base h₀ L m news s Q E D row n v x X₀ B F X N T hC hk hd hu hD hrl hX0 hX0s hz hv has hret
  exact braced_spotK _ _ _ _ _ _ _ _ _ _ _ _ _ _ _ _ _ _ D row n v x X₀ B F X N T hC hk hd hu hD hrl hX0 hX0s hz hv has hret
end
end Mine
end PartC8

section PartC9
open PySem PySem.W PyProof.Rows PySem.Spec PySem.Calls
set_option linter.unusedVariables false
namespace Mine
/-- a text or None as a value -/
def optV (o : Option Str) (t : Tok) : Value := match o with | some x => .str x t | none => .none
/-- a locale's name -/
def locName (l e : Option Str) : Str := match e with
  | none => l.getD (Str.ofString "C")
  | some y => l.getD (Str.ofString "C") ++ Str.ofString "." ++ y
section
variable {w : World} {p : Program} {loose : List Str} {mean : ExcName → Option Value} {mg mb : Str → Option Value} {dp un : Nat} {gd : Option (List Code)} {cn : Str} {cs : Scope} {a : Addr} {ccd : Value} {cl : List (Str × Addr)} {outer : List Env} {A₀ : Around} {base h₀ : Heap} {L : Addr} {m : Str → Option Value} {news : List (Addr × Obj)} {s : Shared} {Q E : Value → Shared → Prop}


set_option maxRecDepth 100000 in
set_option maxHeartbeats 8000000 in
theorem build_K {T2 : Addr} {l e : Option Str} {tx ty : Tok} (B : Below A₀ base outer h₀) (F : Fr h₀ L s.heap m) (X : (Mine.hd.heap_39 w.params).In h₀) (N : News h₀ L s.heap news) (T : Top p loose mean mg mb h₀) (hk : cs.kind = .function)
   (hd : dp + 40 < recursionLimit) (hu : un + 100 < cLine) (hT : (T2, { cls := .type "tuple", data := .seq #[optV l tx, optV e ty] }) ∈ news) (hx : ∀ x, l = some x → x.length < 1000) (hy : ∀ x, e = some x → x.length < 1000)
    (hret : ∀ t h' tk', Fr h₀ L h' m → News h₀ L h' news → Q (.str (locName l e) t) { s with heap := h', toks := tk' }) :
    wpAny (model PySem.Challenge.rw_wu0067_01.row.prog w) (ktrTop dp un gd cn cs L a ccd cl outer) (call (.ref 71) [.ref T2]) Q E s := by
  obtain ⟨ck, cnm, cg, cc, cm⟩ := cs
  have hk' : ck = .function := hk
  subst hk'
  w_top off
  k_with_none
  cases l with
  | none =>
    cases e with
    | none =>
      dsimp only [optV] at hT
      revert X; k_fill; intro X
      refine wpAny_call ?_
      k_dflt k_enter
      refine wp_hold ?_
      intro R0 X0 hR0
      k_steps
      refine hR0 _ _ ?_
      (try dsimp only)
      k_steps
      exact hret _ _ _ (by assumption) (by assumption)
    | some y =>
      have hy := hy y rfl
      dsimp only [optV] at hT
      revert X; k_fill; intro X
      refine wpAny_call ?_
      k_dflt k_enter
      refine wp_hold ?_
      intro R0 X0 hR0
      k_steps
      refine hR0 _ _ ?_
      (try dsimp only)
      k_steps
      exact hret _ _ _ (by assumption) (by assumption)
  | some x =>
    have hx := hx x rfl
    cases e with
    | none =>
      dsimp only [optV] at hT
      revert X; k_fill; intro X
      refine wpAny_call ?_
      k_dflt k_enter
      refine wp_hold ?_
      intro R0 X0 hR0
      k_steps
      refine hR0 _ _ ?_
      (try dsimp only)
      k_steps
      exact hret _ _ _ (by assumption) (by assumption)
    | some y =>
      have hy := hy y rfl
      dsimp only [optV] at hT
      revert X; k_fill; intro X
      refine wpAny_call ?_
      k_dflt k_enter
      refine wp_hold ?_
      intro R0 X0 hR0
      k_steps
      refine hR0 _ _ ?_
      (try dsimp only)
      k_steps
      exact hret _ _ _ (by assumption) (by assumption)
end
end Mine
end PartC9

section PartC10
open PySem PySem.W PyProof.Rows PySem.Spec PySem.Calls
set_option linter.unusedVariables false
namespace Mine
/-- what is known of a name that may stand -/
def OptOk (b : Nat) (o : Option Str) : Prop := ∀ x, o = some x → NoBrace x ∧ x.length ≤ b
def NamesOk (b : Nat) (ss : List Str) : Prop := ss.Nodup ∧ ∀ x ∈ ss, NoBrace x ∧ x.length ≤ b

theorem locName_ok {b : Nat} {l e : Option Str} (hl : OptOk (5 * b) l) (he : OptOk 3 e) : NoBrace (locName l e) ∧ (locName l e).length ≤ 5 * (b + 1) := by
  have hC : NoBrace (Str.ofString "C") := by unfold NoBrace; decide +kernel
  have hd : NoBrace (Str.ofString ".") := by unfold NoBrace; decide +kernel
  have hCl : (Str.ofString "C").length = 1 := by decide +kernel
  have hdl : (Str.ofString ".").length = 1 := by decide +kernel
  have app : ∀ {x y : Str}, NoBrace x → NoBrace y → NoBrace (x ++ y) := by
    intro x y hx hy hm
    have : (x ++ y).cps.toList = x.cps.toList ++ y.cps.toList := by show (x.cps ++ y.cps).toList = _; simp
    rw [this, List.mem_append] at hm
    exact hm.elim hx hy
  have len : ∀ {x y : Str}, (x ++ y).length = x.length + y.length := by
    intro x y; show (x.cps ++ y.cps).size = _; simp [Str.length]
  have h1 : NoBrace (l.getD (Str.ofString "C")) ∧ (l.getD (Str.ofString "C")).length ≤ 5 * b + 1 := by
    cases l with
    | none => exact ⟨hC, by simp [hCl]⟩
    | some x => obtain ⟨a, c⟩ := hl x rfl; exact ⟨a, by simp; omega⟩
  cases e with
  | none => exact ⟨h1.1, by show (l.getD _).length ≤ _; omega⟩
  | some y =>
    obtain ⟨a, c⟩ := he y rfl
    refine ⟨app (app h1.1 hd) a, ?_⟩
    show (l.getD _ ++ Str.ofString "." ++ y).length ≤ _
    rw [len, len, hdl]; omega

section
variable {prog : Program} {w : World} {A : Around} {E : Value → Shared → Prop} {s : Shared}
theorem item_opt {value slice : Expr} {a : Addr} {vs : List Value} {k : Int} {u : Tok} {P : Option Str → Prop} {Q : Value → Shared → Prop} (hl : s.heap.IsList a vs.toArray) (hall : ∀ v ∈ vs, ∃ o t, v = optV o t ∧ P o)
    (h0 : 0 ≤ k) (hk : k < vs.length) (hfit : vs.length < 1000) (h : ∀ o t, P o → Q (optV o t) s)
    (hs : subscripted slice false (.ref a) (.int k u) = operate [.ref a, .int k u] (getItem (.ref a) (.int k u)) := by with_unfolding_all rfl) (hg : ∀ r, letTemporaryGo value (.ref a) r = pure () := by intro _; with_unfolding_all rfl) :
    wpAny (model prog w) A (subscriptTail value slice (.ref a) (.int k u)) Q E s := by
  have hlt : k.toNat < vs.length := by omega
  obtain ⟨o, t, e, hp⟩ := hall _ (List.getElem_mem hlt)
  refine item_listL hl h0 (by omega) (x := optV o t) ?_ (h o t hp) hs hg
  rw [← e]; simp
end

theorem strsAre_mem : ∀ {vs : List Value} {ss : List Str}, StrsAre vs ss → ∀ v ∈ vs, ∃ x t, v = .str x t ∧ x ∈ ss
  | _, _, .nil, v, h => nomatch h
  | _, _, .cons x t r, v, h => by
    rcases List.mem_cons.mp h with rfl | h
    · exact ⟨x, t, rfl, .head _⟩
    · obtain ⟨y, u, e, hm⟩ := strsAre_mem r v h
      exact ⟨y, u, e, .tail _ hm⟩

theorem carried_ints : ∀ {vs : List Value} {ks : List Int}, CarriedAll vs (ks.map PyData.int) → ∀ v ∈ vs, ∃ k t, v = .int k t ∧ k ∈ ks
  | _, [], h, v, hv => by cases h; exact nomatch hv
  | _, k :: ks, h, v, hv => by
    rw [List.map_cons] at h
    cases h with
    | cons h1 h2 =>
      cases h1
      rcases List.mem_cons.mp hv with rfl | hv
      · exact ⟨_, _, rfl, .head _⟩
      · obtain ⟨k', t, e, hm⟩ := carried_ints h2 v hv
        exact ⟨k', t, e, .tail _ hm⟩

theorem ys_len {ys : List Value} {ns : List Int} {f : Int → Int} (h : CarriedAll ys (List.map (fun a => PyData.int (f a)) (List.filter (fun _ => true) (List.take 6 ns)))) : ys.length ≤ 6 := by
  have := CarriedAll.length_eq h
  rw [List.length_map] at this
  have h1 := List.length_filter_le (fun _ : Int => true) (List.take 6 ns)
  rw [List.length_take] at h1
  omega
theorem ys_nonneg {ys : List Value} {ns : List Int} {f : Int → Int} (hf : ∀ a, 0 ≤ f a) (h : CarriedAll ys (List.map (fun a => PyData.int (f a)) (List.filter (fun _ => true) (List.take 6 ns)))) : ∀ v ∈ ys, ∃ k t, v = Value.int k t ∧ 0 ≤ k := by
  intro v hv
  have e : List.map (fun a => PyData.int (f a)) (List.filter (fun _ => true) (List.take 6 ns)) = (List.map f (List.filter (fun _ => true) (List.take 6 ns))).map PyData.int := by rw [List.map_map]; rfl
  rw [e] at h
  obtain ⟨k, t, e, hm⟩ := carried_ints h v hv
  obtain ⟨a, _, rfl⟩ := List.mem_map.mp hm
  exact ⟨_, t, e, hf a⟩
theorem empty_le {b : Nat} : (Str.ofString "").length ≤ b := by
  have : (Str.ofString "").length = 0 := by decide +kernel
  omega
theorem bases_ok {b : Nat} {vn : List Value} {ss : List Str} {t : Tok} (h : StrsAre vn ss) (hok : NamesOk b ss) : ∀ v ∈ Value.none :: Value.str (Str.ofString "") t :: vn, ∃ o t, v = optV o t ∧ OptOk b o := by
  intro v hv
  rcases List.mem_cons.mp hv with rfl | hv
  · exact ⟨none, 0, rfl, fun x hx => nomatch hx⟩
  · rcases List.mem_cons.mp hv with rfl | hv
    · exact ⟨some (Str.ofString ""), t, rfl, fun x hx => by cases hx; exact ⟨by unfold NoBrace; decide +kernel, empty_le⟩⟩
    · obtain ⟨x, t, rfl, hm⟩ := strsAre_mem h v hv
      exact ⟨some x, t, rfl, fun y hy => by cases hy; exact hok.2 x hm⟩
theorem pieces_ok {t1 t2 t3 t4 t5 t6 : Tok} : ∀ v ∈ [Value.none, .str (Str.ofString "") t1, .str (Str.ofString "a") t2, .str (Str.ofString "ab") t3, .str (Str.ofString "a~") t4, .str (Str.ofString "a~b") t5, .str (Str.ofString "b") t6], ∃ o t, v = optV o t ∧ OptOk 3 o := by
  intro v hv
  simp only [List.mem_cons, List.not_mem_nil, or_false] at hv
  have one : ∀ x : Str, (NoBrace x ∧ x.length ≤ 3) → OptOk 3 (some x) := fun x h y hy => by cases hy; exact h
  rcases hv with rfl | rfl | rfl | rfl | rfl | rfl | rfl
  · exact ⟨none, 0, rfl, fun x hx => nomatch hx⟩
  all_goals exact ⟨some _, _, rfl, one _ ⟨by unfold NoBrace; decide +kernel, by decide +kernel⟩⟩
theorem len2 {vn : List Value} {ss : List Str} {a b : Value} (h : vn.length = ss.length) : (a :: b :: vn).length = ss.length + 2 := by simp [h]
theorem fmod_bounds {a b : Int} (h : 0 < b) : 0 ≤ a.fmod b ∧ a.fmod b < b := ⟨Int.fmod_nonneg_of_pos a h, Int.fmod_lt_of_pos a h⟩

section
variable {w : World} {p : Program} {loose : List Str} {mean : ExcName → Option Value} {mg mb : Str → Option Value} {dp un : Nat} {gd : Option (List Code)} {cn : Str} {cs : Scope} {a : Addr} {ccd : Value} {cl : List (Str × Addr)} {outer : List Env} {A₀ : Around} {base h₀ : Heap} {L : Addr} {m : Str → Option Value} {news : List (Addr × Obj)} {s : Shared} {Q E : Value → Shared → Prop}


set_option maxRecDepth 100000 in
set_option maxHeartbeats 8000000 in
theorem names_K {S : Addr} {vs : List Value} {ns : List Int} (B : Below A₀ base outer h₀) (F : Fr h₀ L s.heap m) (X : (Mine.hd.heap_39 w.params).In h₀) (N : News h₀ L s.heap news) (T : Top p loose mean mg mb h₀) (hk : cs.kind = .function)
   (hd : dp + 60 < recursionLimit) (hu : un + 150 < cLine) (hS : h₀.IsList S vs.toArray) (hi : IntsAre vs ns) (h63 : ns.length ≤ 63)
    (hret : ∀ D vn ss n h' tk' news', StrsAre vn ss → NamesOk 100 ss → ss ≠ [] → ss.length ≤ 11 → (D, listOf vn.toArray n) ∈ news' → (∀ p ∈ news, p ∈ news') → (∀ p ∈ news, p.1 < D) → Fr h₀ L h' m → News h₀ L h' news' → Q (.ref D) { s with heap := h', toks := tk' }) :
    wpAny (model PySem.Challenge.rw_wu0067_01.row.prog w) (ktrTop dp un gd cn cs L a ccd cl outer) (call (.ref 154) [.ref S]) Q E s := by
  obtain ⟨ck, cnm, cg, cc, cm⟩ := cs
  have hk' : ck = .function := hk
  subst hk'
  w_top off
  k_with_none
  k_with "exec For Name BinOp cons nil" => (refine' for_start ?_ ?hs; (case hs => intro _; rfl); (try dsimp only); (try k_fold))
  k_with "binaryOp Add ref ref" => (k_dflt (refine add_K (by k_asm) (by k_asm) (News.isList (by k_asm) (by k_mem)) (by first | assumption | exact News.isList (by k_asm) (by k_mem)) (by first | (rename CarriedAll _ _ => hcar; have := ys_len hcar; show 5 + _ < 1000; omega) | (have := StrsAre.length hvn9; show 2 + _ < 1000; omega)) ?_); intro l5 h5 F5 N5 hl5; (try dsimp only); (try k_fold))
  revert X; k_fill; intro X
  refine wpAny_call ?_
  k_dflt k_enter
  rename (Fr h₀ L _ m) => FG1
  have hS1 := hS.at fun o e => FG1.keep S o e
  k_steps
  rename CarriedAll _ _ => hcar
  rename Fr _ _ _ _ => F2
  rename News _ _ _ _ => N2
  have hylen := ys_len hcar
  have hynn := ys_nonneg (fun a => (fmod_bounds (a := a) (by decide : (0 : Int) < 10 ^ Int.toNat 6)).1) hcar
  rename_i g1 L1 hx0 B1 X1 T1 qk1 ek1 lN hx1 hlN hx2 l7 hx3 hl7 D7 ws7 hx4 F7 N7 hI7 hC7 hL7 hl8 D8 ys hx5 tk8 a4 a3 a2 a1 a0
  clear a4 a3 a2 a1 a0 hI7 hC7 hL7 F7 N7
  have hl5N : l5 ≠ lN := fun q => by have := hl5 _ (List.mem_cons_of_mem _ (List.mem_cons_of_mem _ List.mem_cons_self)); rw [← q] at this; exact Nat.lt_irrefl _ this
  obtain ⟨v5, nx5, N2, hmN, hKx, hv5a, hv5b, hv5⟩ : ∃ (v5 : List Value) (nx5 : List (Addr × Obj)), News g1 L1 h5 ((l5, listOf v5.toArray 0) :: nx5) ∧ (lN, listOf ([] : List Value).toArray 0) ∈ nx5 ∧ (∀ p ∈ news, p ∈ nx5) ∧ 1 ≤ v5.length ∧ v5.length ≤ 11 ∧ ∀ v ∈ v5, ∃ k t, v = Value.int k t ∧ 0 ≤ k := by
    refine ⟨_, _, N2, ?_, fun p hp => ?_, ?_, ?_, fun v hm => ?_⟩
    · k_mem
    · simp [hp]
    · simp
    · simp; omega
    · simp only [List.mem_cons] at hm
      rcases hm with rfl | rfl | rfl | rfl | rfl | hm
      · exact ⟨_, _, rfl, by decide⟩
      · exact ⟨_, _, rfl, by decide⟩
      · exact ⟨_, _, rfl, by decide⟩
      · exact ⟨_, _, rfl, by decide⟩
      · exact ⟨_, _, rfl, by decide⟩
      · exact hynn v hm
  refine for_list (vs := v5) (n := 0) (fun i mm nx => mm (Str.ofString "names") = some (.ref lN) ∧ ∃ vn ss n, StrsAre vn ss ∧ NamesOk (5 * i) ss ∧ ss.length ≤ i ∧ (1 ≤ i → ss ≠ []) ∧ (lN, listOf vn.toArray n) ∈ nx ∧ (l5, listOf v5.toArray 0) ∈ nx ∧ ∀ p ∈ news, p ∈ nx) rfl ?hE rfl F2 N2 ?hJl ?hj ?turn ?done
  case hE => first | assumption | passes_own | with_unfolding_all passes_own
  case hJl => rintro i mm nx ⟨_, vn, ss, n, _, _, _, _, _, h, _⟩; exact h
  case hj =>
    refine ⟨rfl, [], [], 0, .nil, ⟨List.nodup_nil, fun x hx => nomatch hx⟩, Nat.le_refl _, fun h => by omega, .tail _ hmN, .head _, fun p hp => .tail _ (hKx p hp)⟩
  case turn =>
    intro i v m₁ nx it o h tk' R8 X8 hR8 hX8 hv hJ hit hit2 F N
    (try dsimp only)
    obtain ⟨hs1, vn, ss, n, hvn9, hok, hle, hne, hmN, hm5, hK⟩ := hJ
    have F := fr_mset (l := [(Str.ofString "names", some (.ref lN))]) F (by simp [hs1])
    have hi11 : i < 11 := by have := (List.getElem?_eq_some_iff.mp hv).1; omega
    obtain ⟨k, tk9, rfl, hk0⟩ := hv5 v (List.mem_of_getElem? hv)
    have hvl := StrsAre.length hvn9
    k_with "call builtin:len" => (k_dflt (refine len_list_K (News.isList (by k_asm) (by k_mem)) (len2 hvl) (by omega) ?_))
    k_with "call ref" => ((with_reducible show wpAny _ _ (call (Value.ref 71) _ _) _ _ _); k_dflt (refine build_K (by k_asm) (by k_asm) (by k_asm) (by k_asm) (by k_asm) (by rfl) (by k_room) (by k_units) (by k_mem) (by intro x9 hx9; have := (ho1 x9 hx9).2; omega) (by intro x9 hx9; have := (ho2 x9 hx9).2; omega) ?_); intro tb hb9 tkb Fb Nb; (try dsimp only); (try k_fold))
    k_with "subscriptTail Name BinOp ref int" => (first | ((k_dflt (refine item_opt (P := OptOk (5 * i)) (News.isList (by k_asm) (by k_mem)) (bases_ok hvn9 hok) (fmod_bounds (by omega)).1 (by rw [len2 hvl]; exact (fmod_bounds (by omega)).2) (by rw [len2 hvl]; omega) ?_)); intro o1 t1 ho1) | ((k_dflt (refine item_opt (P := OptOk 3) (News.isList (by k_asm) (by k_mem)) pieces_ok (fmod_bounds (by decide)).1 (by show _ < (7 : Int); exact (fmod_bounds (by decide)).2) (by show (7 : Nat) < 1000; decide) ?_)); intro o2 t2 ho2))
    k_with "compareOp NotIn str ref" => (k_dflt (refine notin_list_strs (News.isList (by k_asm) (by k_mem)) hvn9 ?_))
    k_with "call builtin:list.append" => (k_dflt (refine append_KF (by k_asm) (news_front (by k_asm) (by k_mem)) (UpdF.head but_ne) (by omega) ?_); intro h8 F8 N8; (try dsimp only); (try k_fold))
    have hbig : NamesOk (5 * (i + 1)) ss := ⟨hok.1, fun x hx => ⟨(hok.2 x hx).1, by have := (hok.2 x hx).2; omega⟩⟩
    k_steps
    · rename News _ _ _ _ => N7
      rename Fr _ _ _ _ => F7
      rename (List.any _ _ = true) => hc
      refine hR8 .next _ (FrEnd.mk (news' := nx) F7 (news_sub N7 (fun p hp => by rcases List.mem_cons.mp hp with rfl | hp <;> k_mem)) hit ⟨rfl, vn, ss, n, hvn9, hbig, by omega, fun _ q => ?_, hmN, hm5, hK⟩)
      subst q; cases hc
    · rename News _ _ _ _ => N7
      rename Fr _ _ _ _ => F7
      rename (List.any _ _ = false) => hc
      have hlNit : lN ≠ it := hit _ hmN
      refine hR8 .next _ (FrEnd.mk (news' := (lN, listOf (vn ++ [Value.str (locName o1 o2) tb]).toArray (n + 1)) :: but lN nx) F7 (news_sub N7 (fun p hp => ?_)) (fun p hp => ?_) ⟨rfl, _, ss ++ [locName o1 o2], n + 1, hvn9.append' (.cons _ _ .nil), ⟨?_, fun x hx => ?_⟩, by rw [List.length_append]; simp; omega, fun _ q => by simp at q, .head _, .tail _ (mem_but.mpr ⟨hm5, ?_⟩), fun p hp => .tail _ (mem_but.mpr ⟨hK p hp, Nat.ne_of_lt (hlN p hp)⟩)⟩)
      · rcases List.mem_cons.mp hp with rfl | hp
        · exact .tail _ (mem_but.mpr ⟨by k_mem, Ne.symm hlNit⟩)
        · rcases List.mem_cons.mp hp with rfl | hp
          · exact .head _
          · exact .tail _ (mem_but.mpr ⟨by have hp := (mem_but.mp hp).1; k_mem, (mem_but.mp hp).2⟩)
      · rcases List.mem_cons.mp hp with rfl | hp
        · exact hlNit
        · exact hit p (mem_but.mp hp).1
      · rw [List.nodup_append]
        refine ⟨hok.1, by simp, fun a ha b hb e => ?_⟩
        rw [List.mem_singleton.mp hb] at e
        subst e
        have := List.any_eq_false.mp hc _ ha
        simp at this
      · rcases List.mem_append.mp hx with h1 | h1
        · exact hbig.2 x h1
        · rw [List.mem_singleton.mp h1]; exact locName_ok ho1 ho2
      · exact hl5N
  case done =>
    rintro mm nx h tk ⟨hs1, vn, ss, n, hvn9, hok, hle, hne, hmN, hm5, hK⟩ F N
    (try dsimp only)
    have F := fr_mset (l := [(Str.ofString "names", some (.ref lN))]) F (by simp [hs1])
    k_steps
    have hne1 := hne hv5a
    refine hret _ _ _ _ _ _ _ hvn9 ⟨hok.1, fun x hx => ⟨(hok.2 x hx).1, by have := (hok.2 x hx).2; omega⟩⟩ hne1 (by omega) hmN hK hlN (by assumption) (by assumption)
end
end Mine
end PartC10

section PartC11
open PySem PySem.W PyProof.Rows PySem.Spec PySem.Calls
set_option linter.unusedVariables false
namespace Mine
section
variable {w : World} {p : Program} {loose : List Str} {mean : ExcName → Option Value} {mg mb : Str → Option Value} {dp un : Nat} {gd : Option (List Code)} {cn : Str} {cs : Scope} {a : Addr} {ccd : Value} {cl : List (Str × Addr)} {outer : List Env} {A₀ : Around} {base h₀ : Heap} {L : Addr} {m : Str → Option Value} {news : List (Addr × Obj)} {s : Shared} {Q E : Value → Shared → Prop}

local macro_rules | `(tactic| walk_at $s:str) => `(tactic| k_extra $s)

set_option maxRecDepth 100000 in
set_option maxHeartbeats 8000000 in
theorem due_K {D : Addr} {vn : List Value} {ss : List Str} {n : Nat} (B : Below A₀ base outer h₀) (F : Fr h₀ L s.heap m) (X : (Mine.hd.heap_39 w.params).In h₀) (N : News h₀ L s.heap news) (T : Top p loose mean mg mb h₀) (hk : cs.kind = .function)
   (hd : dp + 60 < recursionLimit) (hu : un + 150 < cLine) (hs : StrsAre vn ss) (hok : NamesOk 100 ss) (hne : ss ≠ []) (h11 : ss.length ≤ 11) (hD : (D, listOf vn.toArray n) ∈ news) (hD7 : D ≠ 177) (hC : CodeHd base 179 177) (hT7 : (177, tabObj #[]) ∈ news)
   (hret : ∀ P T1 n1 rs1 rows T2 n2 rs2 rowsS ss4 H y0 h' tk' news', IsHeight sLt bLt ss H → y0 ∈ ss → (∀ y ∈ ss, H y ≤ H y0) → rows.length = H y0 → ByH ss H rows → TabS news' T1 n1 rs1 rows → rowsS.length = rows.length → ss4.Perm ss → ss4.Pairwise (fun a b => sLt a b = true) → ByF ss4 (free sLt bLt ss) rowsS → TabS news' T2 n2 rs2 rowsS →
      (P, { cls := .type "tuple", dict := none, data := .seq #[.ref T1, .ref T2] 0, slots := #[] }) ∈ news' → (∀ p ∈ news, p.1 ≠ 177 → p ∈ news') → (∀ p ∈ news, p.1 < T1) → T1 < T2 → T2 < P → (∃ ps, ((177 : Addr), tabObj ps) ∈ news') → Fr h₀ L h' m → News h₀ L h' news' → Q (.ref P) { s with heap := h', toks := tk' })
    : 
    wpAny (model PySem.Challenge.rw_wu0067_01.row.prog w) (ktrTop dp un gd cn cs L a ccd cl outer) (call (.ref 180) [.ref D]) Q E s := by
  obtain ⟨ck, cnm, cg, cc, cm⟩ := cs
  obtain ⟨sh, sg, sd, st, so⟩ := s
  dsimp only at F N hret
  have hk' : ck = .function := hk
  subst hk'
  w_top off
  k_with_none
  k_with "eval ListComp" => ((k_dflt (refine comp_start (by with_unfolding_all rfl) (by rfl) (by decide) (by intro _; rfl) ?_; (try dsimp only); (try k_fold))))
  k_with "exec Assign cons ListComp" => ((k_dflt (refine comp_start_to (by with_unfolding_all rfl) (by with_unfolding_all rfl) (by rfl) (by decide) (by intro _; rfl) ?_; (try dsimp only); (try k_fold))))
  k_with "exec For Name Subscript cons nil" => ((k_dflt (refine for_start ?_ (by intro _; rfl); (try dsimp only); (try k_fold))))
  k_with "call builtin:len" => ((k_dflt (refine len_strs_K (News.isList (by k_asm) (by k_mem)) (by assumption) (by assumption) (by assumption) ?_); intro tl9 kl9; (try dsimp only); (try k_fold)))
  k_with "compareOp Eq ref ref" => ((k_dflt (refine eq_nil_K (News.isList (by k_asm) (by k_mem)) (News.isList (by k_asm) (by k_mem)) (by k_units) (by assumption) ?_)))
  k_with "subscriptTail Name Name ref int" => ((k_dflt (refine item_refs (News.isList (by k_asm) (by k_mem)) (by assumption) (by assumption) ?_)))
  k_with "exec For Name Name cons nil" => (refine for_start ?_ (by intro _; rfl); (try dsimp only); (try k_fold))
  k_with "exec For Name Call cons nil" => (refine for_start ?_ (by intro _; rfl); (try dsimp only); (try k_fold))
  revert X; k_fill; intro X
  refine wpAny_call ?_
  k_dflt k_enter
  rename_i g1 L1 h1 tk1 FG1 F1 B1 X1 T1 l1 oS oH oL oN oB d1 d2 d3 d4 d5 N1
  have e1 := Eq.trans d1 (show _ = Data.cell none from rfl)
  have e2 := Eq.trans d2 (show _ = Data.cell none from rfl)
  have e3 := Eq.trans d3 (show _ = Data.cell none from rfl)
  have e4 := Eq.trans d4 (show _ = Data.cell none from rfl)
  have e5 := Eq.trans d5 (show _ = Data.cell none from rfl)
  clear d1 d2 d3 d4 d5
  have F1 := fr_mset (l := [(Str.ofString "names", some (.ref D))]) F1 (by intro p hp; rw [List.mem_singleton.mp hp]; rfl)
  generalize bindL _ _ = m0 at F1
  refine wp_holdE (by first | passes_own | with_unfolding_all passes_own) ?_
  intro R0 X0 hR0 hX0
  refine wp_letA ?_
  intro A2
  have hAd : A2.depth = dp + 1 := rfl
  have hAu : A2.units = un + 3 := rfl
  k_steps
  rename_i dB h2 ob F2 N2 lo2 hs2 _ _ _ l2
  have hU2 : Due news L1 ((dB, ob) :: (L1 + 1 + 1 + 1 + 1 + 1, oS) :: (L1 + 1 + 1 + 1 + 1, oH) :: (L1 + 1 + 1 + 1, oL) :: (L1 + 1 + 1, oN) :: (L1 + 1, oB) :: news) (· = tabObj #[]) none none none none none := ⟨l1, l1 _ hT7, fun p hp _ => .tail _ (.tail _ (.tail _ (.tail _ (.tail _ (.tail _ hp))))), ⟨_, .tail _ (.tail _ (.tail _ (.tail _ (.tail _ (.tail _ hT7))))), rfl⟩, ⟨oB, by k_mem, e5⟩, ⟨oN, by k_mem, e4⟩, ⟨oL, by k_mem, e3⟩, ⟨oH, by k_mem, e2⟩, ⟨oS, by k_mem, e1⟩⟩
  have hdB : L1 + 5 < dB := l2.1
  refine storeCell_K F2 N2 rfl hU2.cb ?_
  intro h3 o3 F3 N3 c3
  have hU3 := hU2.setB c3
  have hBel : BelAt PySem.Challenge.rw_wu0067_01.row.prog w ((L1 + 1, o3) :: but (L1 + 1) ((dB, ob) :: (L1 + 1 + 1 + 1 + 1 + 1, oS) :: (L1 + 1 + 1 + 1 + 1, oH) :: (L1 + 1 + 1 + 1, oL) :: (L1 + 1 + 1, oN) :: (L1 + 1, oB) :: news)) dB ss [] := ⟨ob, [], .tail _ (mem_but.mpr ⟨List.mem_cons_self, Nat.ne_of_gt l2.2.2.2.2.1⟩), hs2, Nat.zero_le _, fun x hx => nomatch hx⟩
  generalize ((_ : Addr × Obj) :: but (L1 + 1) _) = nx3 at N3 hU3 hBel
  clear N2 hU2 F2
  k_steps
  refine for_list (vs := vn) (n := n) (fun i mm nx => mm (Str.ofString "names") = some (.ref D) ∧ (∃ v, Due news L1 nx (· = tabObj #[]) (some (.ref dB)) v none none none) ∧ BelAt PySem.Challenge.rw_wu0067_01.row.prog w nx dB ss (ss.take i))
    rfl ?hE rfl F3 N3 ?hJl ?hj ?turn ?done
  case hE => first | assumption | passes_own | with_unfolding_all passes_own
  case hJl => rintro i mm nx ⟨_, ⟨v, hU⟩, _⟩; exact hU.old _ hD hD7
  case hj => exact ⟨rfl, ⟨_, hU3⟩, hBel⟩
  case turn =>
    intro i v m₁ nx it o h tk R8 X8 hR8 hX8 hv hJ hit hit2 F N
    (try dsimp only)
    obtain ⟨hs1, ⟨v1, hU⟩, hB⟩ := hJ
    have F := fr_mset (l := [(Str.ofString "names", some (.ref D))]) F (by simp [hs1])
    obtain ⟨x, tx, rfl, hx⟩ := StrsAre.item hs i v hv
    refine storeCell_I F N hit rfl hU.cn ?_
    intro h4 o4 F4 N4 c4
    have hU4 := hU.setN c4
    have hB4 := hB.set (c := L1 + 1 + 1) (o' := o4) l2.2.2.2.1
    have hit4 := off_set (o' := o4) hit hU.cn
    generalize ((_ : Addr × Obj) :: but (L1 + 1 + 1) _) = nx4 at N4 hU4 hB4 hit4
    clear N hU hB
    obtain ⟨ob4, mb4, db4⟩ := hU4.cb
    obtain ⟨on4, mn4, dn4⟩ := hU4.cn
    k_steps
    rename Fr _ _ _ _ => F5
    rename News _ _ _ _ => N5
    refine comp_list (l := D) (vs := vn) (n := n) (use := none) (fun j acc nx' => nx' = (it, o) :: nx4 ∧ StrsAre acc ((ss.take j).filter (fun low => rB sLt bLt low x)))
      rfl (by decide) rfl rfl (by have := hs.len_eq; omega) F5 N5 ?hJl2 ?hJa2 ?hj2 ?turn2 ?done2 rfl
    case hJl2 => rintro j acc nx' ⟨rfl, _⟩; exact .tail _ (hU4.old _ hD hD7)
    case hJa2 => rintro j acc nx' ⟨_, h⟩; rw [h.len_eq]; exact Nat.le_trans (List.length_filter_le _ _) (List.length_take_le _ _)
    case hj2 => exact ⟨rfl, .nil⟩
    case turn2 =>
      intro j v acc nx' C oC mC D' nD it2 o2 h tk R9 hR9 hv2 hJ2 hoff hlt1 hlt2 hlt3 hns hmx F N
      (try dsimp only)
      obtain ⟨rfl, hacc⟩ := hJ2
      obtain ⟨y, ty, rfl, hy⟩ := StrsAre.item hs j v hv2
      have hxm := List.mem_of_getElem? hx
      have hym := List.mem_of_getElem? hy
      have hxl : x.length ≤ 100 := (hok.2 x hxm).2
      have hyl : y.length ≤ 100 := (hok.2 y hym).2
      refine ctests_one ?_
      have hns' : LCg.NsObj oC mC := hns
      k_steps
      · rename ((Txt.slice _ _ _ == _) = true) => hsl
        rename ((y != x) = true) => hne
        obtain ⟨hyx, hrb⟩ := low_yes (hok.2 x hxm).1 (hok.2 y hym).1 hne hsl
        refine item_str ?r (by omega) (by omega) ?_
        case r => unfold fitsSsize; simp; omega
        intro _
        k_steps
        · rename Fr _ _ _ _ => F7
          rename News _ _ _ _ => N7
          rename (_ < (_ : List Nat)) => hlt
          exact hR9 _ _ (CEnd.mk F7 N7 hoff ⟨rfl, filt_yes hacc hy (by rw [hrb]; exact decide_eq_true hlt)⟩)
        · rename Fr _ _ _ _ => F7
          rename News _ _ _ _ => N7
          rename (¬ _ < (_ : List Nat)) => hlt
          exact hR9 _ _ (CEnd.mk F7 N7 hoff ⟨rfl, filt_no hacc hy (by rw [hrb]; exact decide_eq_false hlt)⟩)
      · rename Fr _ _ _ _ => F7
        rename News _ _ _ _ => N7
        rename ((Txt.slice _ _ _ == _) = false) => hsl
        exact hR9 _ _ (CEnd.mk F7 N7 hoff ⟨rfl, filt_no hacc hy (low_no (hok.2 x hxm).1 (hok.2 y hym).1 hsl)⟩)
      · rename ((y != x) = false) => hne
        exact hR9 _ _ (CEnd.mk F N hoff ⟨rfl, filt_no hacc hy (low_same hne)⟩)
    case done2 =>
      intro acc nx' D' nD h tk hJ2 hoff hlt F N
      (try dsimp only)
      obtain ⟨rfl, hacc⟩ := hJ2
      (try dsimp only)
      k_steps
      rename News _ _ _ _ => N8
      rename Fr _ _ _ _ => F8
      have hitD : it < D' := hlt (it, o) (.head _)
      have hit8 := off_cons (p := (D', listOf acc.toArray nD)) hit4 hitD
      obtain ⟨od, kvs, hod1, hod2, hod3, hod4⟩ := hB4
      have hdD : dB < D' := hlt _ (.tail _ hod1)
      refine dict_set_I F8 (news_swap N8) hit8 (.tail _ hod1) hod2 (by rw [List.length_take] at hod3; omega) ?_
      intro h9 o9 F9 N9 hd9
      k_steps
      exact hR8 .next _ (FrEnd.mk F9 N9 (off_set (P := fun _ => True) (o' := o9) hit8 ⟨od, .tail _ hod1, trivial⟩) ⟨rfl, ⟨_, hU4.cons.upd hdB⟩, by
        rw [List.take_add_one, hx]
        exact BelAt.put hd9 hod3 hod4 hdD (by rw [List.take_of_length_le (by have := hs.len_eq; omega)] at hacc; exact hacc)⟩)
  case done =>
    intro m5 nx5 h5 tk5 hJ F5 N5
    (try dsimp only)
    obtain ⟨hs5, ⟨v5, hU5⟩, hB5⟩ := hJ
    have F5 := fr_mset (l := [(Str.ofString "names", some (.ref D))]) F5 (by simp [hs5])
    rw [List.take_of_length_le (by have := hs.len_eq; omega)] at hB5
    clear N3 hU3 hBel F3
    have F5 : Fr g1 L1 h5 _ := F5
    have N5 : News g1 L1 h5 nx5 := N5
    k_steps
    rename_i dH h6 oh F6 N6 l6 lo6 hs6 _ _ _
    have hBH : dB < dH := let ⟨_, _, hm, _⟩ := hB5; l6 _ hm
    have hdH : L1 + 5 < dH := Nat.lt_trans hdB hBH
    refine storeCell_K F6 N6 rfl hU5.cons.ch ?_
    intro h7 o7 F7 N7 c7
    have hU7 := (hU5.cons (p := (dH, oh))).setH c7
    have hB7 := (hB5.cons (p := (dH, oh))).set (c := L1 + 1 + 1 + 1 + 1) (o' := o7) l2.2.1
    have hH7 : HgtAt PySem.Challenge.rw_wu0067_01.row.prog w ((L1 + 1 + 1 + 1 + 1, o7) :: but (L1 + 1 + 1 + 1 + 1) ((dH, oh) :: nx5)) dH (fun _ => 0) [] := ⟨oh, [], .tail _ (mem_but.mpr ⟨.head _, Nat.ne_of_gt (Nat.lt_trans l2.2.1 hBH)⟩), hs6, Nat.zero_le _, fun x hx => nomatch hx⟩
    generalize ((_ : Addr × Obj) :: but (L1 + 1 + 1 + 1 + 1) _) = nx7 at N7 hU7 hB7 hH7
    clear N6 F6 hU5 hB5 N5 F5
    obtain ⟨ot7, mt7, rfl⟩ := hU7.tb
    have N7 := news_front N7 mt7
    k_steps
    rename_i f8 c8 oc8 vs8 t8 ct8 h8 tk8 F8 N8 d81 d82 l81 l82
    ksk_show
    refine ksk_sorted (b := false) (kz := ss.map fun x => -(x.length : Int)) (vs := vn) F8 N8 (News.isList N8 (.tail _ (.tail _ (.tail _ (mem_but.mpr ⟨hU7.old _ hD hD7, hD7⟩))))) (by rw [List.length_map]; exact hs.len_eq.symm) (by have := hs.len_eq; omega) (ksk_s1 _ _) (fun x => ksk_l1 _ _) (fun x => ksk_t1 _ _) ?turn2 ?done2
    case turn2 =>
      intro i v k hv hk h tk own F N
      simp only [List.cons_append] at N
      obtain ⟨x, tx, rfl, hx⟩ := StrsAre.item hs i v hv
      have hxl : x.length ≤ 100 := (hok.2 x (List.mem_of_getElem? hx)).2
      rw [List.getElem?_map, hx] at hk
      obtain rfl : -(x.length : Int) = k := Option.some.inj hk
      k_steps
    case done2 =>
      intro D2 h9 tk9 out cD F9 N9 hlt9 hko
      obtain ⟨ss2, hs2, hperm2, hdesc2⟩ := ksk_strs hs hko
      have hBD : dB < D2 := let ⟨o, _, hm, _⟩ := hB7; hlt9 (dB, o) (.tail _ (.tail _ (.tail _ (mem_but.mpr ⟨hm, Nat.ne_of_gt (Nat.lt_trans (Nat.lt_trans hU7.at177 (Nat.lt_add_of_pos_right (by decide))) hdB)⟩))))
      have hD2 : L1 + 5 < D2 := Nat.lt_trans hdB hBD
      have h177 : 177 < dB := Nat.lt_trans (Nat.lt_trans hU7.at177 (Nat.lt_add_of_pos_right (by decide))) hdB
      have hnl : seqObj "list" out cD = listOf out.toList.toArray cD := by rw [Array.toArray_toList]
      rw [hnl] at N9
      generalize kla_obj _ _ _ _ _ _ _ _ _ = fo at N9 hlt9
      generalize hto : tabObj _ = to at N9 hlt9
      have N9 := news_sub (l' := (D2, listOf out.toList.toArray cD) :: (177, to) :: but 177 nx7) N9 (by
        intro p hp
        rcases List.mem_cons.mp hp with rfl | hp
        · exact .head _
        · exact .tail _ (.tail _ (.tail _ hp)))
      have hlt9 : ∀ p ∈ (177, to) :: but 177 nx7, p.1 < D2 := fun p hp => hlt9 p (.tail _ (.tail _ hp))
      have hDH2 : D2 ≠ dH := let ⟨o, _, hm, _⟩ := hH7; Nat.ne_of_gt (hlt9 (dH, o) (.tail _ (mem_but.mpr ⟨hm, Nat.ne_of_gt (Nat.lt_trans h177 hBH)⟩)))
      have hU9 := (hU7.setT (T' := IsTab) (o := to) ⟨_, hto.symm⟩).cons (p := (D2, listOf out.toList.toArray cD))
      have hB9 := (hB7.set (c := 177) (o' := to) h177).cons (p := (D2, listOf out.toList.toArray cD))
      have hH9 := (hH7.set (c := 177) (o' := to) (Nat.ne_of_lt (Nat.lt_trans h177 hBH))).cons (p := (D2, listOf out.toList.toArray cD))
      have hl9 := (List.Mem.head _ : (D2, listOf out.toList.toArray cD) ∈ (D2, listOf out.toList.toArray cD) :: (177, to) :: but 177 nx7)
      generalize (D2, listOf out.toList.toArray cD) :: (177, to) :: but 177 nx7 = nx9 at N9 hU9 hB9 hH9 hl9
      generalize out.toList = outl at hs2 hl9
      clear N8 F8 N7 F7 hU7 hB7 hH7 hko hnl d81 d82
      k_steps
      refine for_list (l := D2) (vs := outl) (n := cD) (fun i mm nx => mm (Str.ofString "names") = some (.ref D) ∧ (∃ v, Due news L1 nx IsTab (some (.ref dB)) v none (some (.ref dH)) none) ∧ BelAt PySem.Challenge.rw_wu0067_01.row.prog w nx dB ss ss ∧ (D2, listOf outl.toArray cD) ∈ nx ∧
          ∃ H, HgtAt PySem.Challenge.rw_wu0067_01.row.prog w nx dH H (ss2.take i) ∧ ∀ x ∈ ss2.take i, HEq1 ss H x)
        rfl ?hE rfl F9 N9 ?hJl ?hj ?turn ?done
      case hE => first | assumption | passes_own | with_unfolding_all passes_own
      case hJl => rintro i mm nx ⟨_, _, _, hl, _⟩; exact hl
      case hj => exact ⟨rfl, ⟨_, hU9⟩, hB9, hl9, _, hH9, fun x hx => nomatch hx⟩
      case turn =>
        intro i v m₁ nx it o h tk R8 X8 hR8 hX8 hv hJ hit hit2 F N
        (try dsimp only)
        obtain ⟨hs1, ⟨v1, hU⟩, hB, hl, H, hH, hHE⟩ := hJ
        have F := fr_mset (l := [(Str.ofString "names", some (.ref D))]) F (by simp [hs1])
        obtain ⟨x, tx, rfl, hx⟩ := StrsAre.item hs2 i v hv
        refine storeCell_I F N hit rfl hU.cn ?_
        intro h4 o4 F4 N4 c4
        have hU4 := hU.setN c4
        have hB4 := hB.set (c := L1 + 1 + 1) (o' := o4) l2.2.2.2.1
        have hH4 := hH.set (c := L1 + 1 + 1) (o' := o4) (Nat.ne_of_lt (Nat.lt_trans l2.2.2.2.1 hBH))
        have hit4 := off_set (o' := o4) hit hU.cn
        have hl4 : (D2, listOf outl.toArray cD) ∈ (L1 + 1 + 1, o4) :: but (L1 + 1 + 1) nx := .tail _ (mem_but.mpr ⟨hl, Nat.ne_of_gt (Nat.lt_trans l2.2.2.2.1 hBD)⟩)
        generalize ((_ : Addr × Obj) :: but (L1 + 1 + 1) _) = nx4 at N4 hU4 hB4 hH4 hit4 hl4
        clear N hU hB hH hl
        obtain ⟨ob4, mb4, db4⟩ := hU4.cb
        obtain ⟨on4, mn4, dn4⟩ := hU4.cn
        obtain ⟨oh4, mh4, dh4⟩ := hU4.ch
        obtain ⟨oB5, kvsB, hBm, hBd, hBl, hBv⟩ := hB4
        obtain ⟨oH5, kvsH, hHm, hHd, hHl, hHv⟩ := hH4
        have hxm : x ∈ ss := hperm2.mem_iff.mp (List.mem_of_getElem? hx)
        k_with "subscriptTail Name Name ref str" => (k_dflt (refine kda_item (knd := PySem.strKind _ _) (by k_asm) (by k_mem) (by assumption) (strKind_is _ _ _ _) (by assumption) ?_))
        k_with "compareOp In str ref" => (k_dflt (refine in_b (News.isList (by k_asm) (by k_mem)) (by assumption) (by assumption) ?_))
        k_steps
        rename Fr _ _ _ _ => F5
        rename News _ _ _ _ => N5
        rename_i lz _ l5
        refine comp_list (l := D) (vs := vn) (n := n) (use := none) (fun j acc nx' => nx' = ((lz, W.listOf #[Value.int 0 (tk + 1)] 0) :: (it, o) :: nx4) ∧ IntsAre acc (((ss.take j).filter (fun one => rB sLt bLt x one)).map fun y => (H y : Int)))
          rfl (by decide) rfl rfl (by have := hs.len_eq; omega) F5 N5 ?hJl2 ?hJa2 ?hj2 ?turn2 ?done2 rfl
        case hJl2 => rintro j acc nx' ⟨rfl, _⟩; exact .tail _ (.tail _ (hU4.old _ hD hD7))
        case hJa2 => rintro j acc nx' ⟨_, h⟩; rw [h.length, List.length_map]; exact Nat.le_trans (List.length_filter_le _ _) (List.length_take_le _ _)
        case hj2 => exact ⟨rfl, .nil⟩
        case turn2 =>
          intro j v acc nx' C oC mC D' nD it2 o2 h tk R9 hR9 hv2 hJ2 hoff hlt1 hlt2 hlt3 hns hmx F N
          (try dsimp only)
          obtain ⟨rfl, hacc⟩ := hJ2
          obtain ⟨y, ty, rfl, hy⟩ := StrsAre.item hs j v hv2
          have hym := List.mem_of_getElem? hy
          refine ctests_one ?_
          have hns' : LCg.NsObj oC mC := hns
          obtain ⟨rB5, nB5, vsB5, hval, hgt, hstr, hrm⟩ := hBv y hym
          have hany := any_bel (x := x) (y := y) hxm
          cases hr : rB sLt bLt x y with
          | false =>
            rw [hr] at hany
            k_steps
            rename Fr _ _ _ _ => F7
            rename News _ _ _ _ => N7
            exact hR9 _ _ (CEnd.mk F7 N7 hoff ⟨rfl, ints_no hacc hy hr⟩)
          | true =>
            rw [hr] at hany
            have hyt : y ∈ ss2.take i := desc_before hdesc2 hx (hperm2.mem_iff.mpr hym) (rB_len (hok.2 x hxm).1 (hok.2 y hym).1 hr)
            obtain ⟨tH, hvalH⟩ := hHv y hyt
            k_steps
            rename Fr _ _ _ _ => F7
            rename News _ _ _ _ => N7
            exact hR9 _ _ (CEnd.mk F7 N7 hoff ⟨rfl, ints_yes hacc hy hr⟩)
        case done2 =>
          intro acc nx' D' nD h tk hJ2 hoff hlt F N
          (try dsimp only)
          obtain ⟨rfl, hacc⟩ := hJ2
          (try dsimp only)
          k_steps
          rename Fr _ _ _ _ => F6
          rename News _ _ _ _ => N6
          have hal : acc.length ≤ 11 := by rw [hacc.length, List.length_map]; exact Nat.le_trans (List.length_filter_le _ _) (Nat.le_trans (List.length_take_le' _ _) h11)
          refine add_K (vs := [Value.int 0 _]) (ws := acc) F6 N6 (News.isList N6 (.tail _ (.head _))) (News.isList N6 (.head _)) (by simp; omega) ?_
          intro la ha Fa Na hla
          k_steps
          rename_i hm M tM tkM Fm Nm hM hMax
          rw [List.take_of_length_le (by have := hs.len_eq; omega)] at hM hMax
          obtain ⟨k, rfl⟩ : ∃ k : Nat, M = k := ⟨M.toNat, (Int.toNat_of_nonneg (hMax 0 (.head _))).symm⟩
          have Nm := news_sub (l' := (it, o) :: nx4) Nm (fun p hp => .tail _ (.tail _ (.tail _ hp)))
          rw [show (1 + (k : Int)) = ((1 + k : Nat) : Int) by omega]
          refine dict_set_I Fm Nm hit4 hHm hHd (by have := hperm2.length_eq; rw [List.length_take] at hHl; omega) ?_
          intro h9 o9 F9 N9 hd9
          k_steps
          have hnd2 : ss2.Nodup := hperm2.nodup_iff.mpr hok.1
          obtain ⟨hne2, hst2⟩ := HEq1.step (fun y hy => (hok.2 y hy).1) hperm2 hnd2 hdesc2 hx hHE hM hMax
          refine hR8 .next _ (FrEnd.mk F9 N9 (off_set (P := fun _ => True) (o' := o9) hit4 ⟨_, hHm, trivial⟩) ⟨rfl, ⟨_, hU4.upd hdH⟩, BelAt.setD ⟨_, _, hBm, hBd, hBl, hBv⟩ (news_sub Nm fun p hp => .tail _ hp) hHm hHd (Nat.ne_of_gt hBH), .tail _ (mem_but.mpr ⟨hl4, hDH2⟩), _, ?_, hst2⟩)
          rw [List.take_add_one, hx, Option.toList_some]
          exact HgtAt.put' (H := fun z => if z = x then 1 + k else H z) (if_pos rfl) hd9 hHl fun y hy => by simp only [if_neg (hne2 y hy)]; exact hHv y hy
      case done =>
        intro m10 nx10 h10 tk10 hJ F10 N10
        (try dsimp only)
        obtain ⟨hs10, ⟨v10, hU10⟩, hB10, -, H, hH10, hHE⟩ := hJ
        have F10 : Fr g1 L1 h10 _ := F10
        have N10 : News g1 L1 h10 nx10 := N10
        have F10 := fr_mset (l := [(Str.ofString "names", some (.ref D))]) F10 (by simp [hs10])
        have hlo2 : outl.length = ss2.length := hs2.len_eq
        rw [List.take_of_length_le (by omega)] at hH10 hHE
        have hHgt : IsHeight sLt bLt ss H := height_of (fun y hy => (hok.2 y hy).1) hperm2 hHE
        obtain ⟨oH, kvsH, hHm, hHd, hHl, hHv⟩ := hH10
        have hHv : ∀ y ∈ ss, ∃ t, valueAt kvsH y = some (.int (H y : Nat) t) := fun y hy => hHv y (hperm2.mem_iff.mpr hy)
        clear hHE hHl hU9 hB9 hH9 hl9 N9 F9 hlt9
        obtain ⟨oh4, mh4, dh4⟩ := hU10.ch
        k_with "subscriptTail Name Name ref str" => (k_dflt (refine kda_item (knd := PySem.strKind _ _) (by k_asm) (by k_mem) (by assumption) (strKind_is _ _ _ _) (by assumption) ?_))
        k_with "compareOp In str ref" => (k_dflt (refine in_b (News.isList (by k_asm) (by k_mem)) (by assumption) (by assumption) ?_))
        k_steps
        rename Fr _ _ _ _ => F11
        rename News _ _ _ _ => N11
        rename_i dF _ lF _ _ _
        refine comp_list (l := D) (vs := vn) (n := n) (use := none) (fun j acc nx' => nx' = (dF, W.listOf #[] 0) :: nx10 ∧ IntsAre acc (((ss.take j).filter (fun _ => true)).map fun y => (H y : Int)))
          rfl (by decide) rfl rfl (by have := hs.len_eq; omega) F11 N11 ?hJl2 ?hJa2 ?hj2 ?turn2 ?done2 rfl
        case hJl2 => rintro j acc nx' ⟨rfl, _⟩; exact .tail _ (hU10.old _ hD hD7)
        case hJa2 => rintro j acc nx' ⟨_, h⟩; rw [h.length, List.length_map]; exact Nat.le_trans (List.length_filter_le _ _) (List.length_take_le _ _)
        case hj2 => exact ⟨rfl, .nil⟩
        case turn2 =>
          intro j v acc nx' C oC mC D' nD it2 o2 h tk R9 hR9 hv2 hJ2 hoff hlt1 hlt2 hlt3 hns hmx F N
          (try dsimp only)
          obtain ⟨rfl, hacc⟩ := hJ2
          obtain ⟨y, ty, rfl, hy⟩ := StrsAre.item hs j v hv2
          refine ctests_nil ?_
          simp only [if_true]
          have hns' : LCg.NsObj oC mC := hns
          obtain ⟨tH, hvalH⟩ := hHv y (List.mem_of_getElem? hy)
          k_steps
          rename Fr _ _ _ _ => F7
          rename News _ _ _ _ => N7
          exact hR9 _ _ (CEnd.mk F7 N7 hoff ⟨rfl, ints_yes hacc hy rfl⟩)
        case done2 =>
          intro acc nx' D' nD h tk hJ2 hoff hlt F N
          (try dsimp only)
          obtain ⟨rfl, hacc⟩ := hJ2
          (try dsimp only)
          k_steps
          rename Fr _ _ _ _ => F12
          rename News _ _ _ _ => N12
          rw [List.take_of_length_le (by have := hs.len_eq; omega), List.filter_eq_self.mpr (fun _ _ => rfl)] at hacc
          refine kso_max F12 N12 (News.isList N12 (.head _)) hacc (by rw [List.length_map]; exact List.length_pos_iff.mpr hne) rfl ?_
          intro h13 M tM tk13 F13 N13 hM hMax
          obtain ⟨y0, hy0, rfl⟩ := List.mem_map.mp hM
          have hMax' : ∀ y ∈ ss, H y ≤ H y0 := fun y hy => by have := hMax (H y : Int) (List.mem_map.mpr ⟨y, hy, rfl⟩); omega
          have N13 := news_sub (l' := (dF, W.listOf #[] 0) :: nx10) N13 (fun p hp => .tail _ hp)
          clear N12 F12 F10 N10 F11 N11
          k_steps
          rename_i h14 tk14 t14 u14 v14 hr14 F14 N14 _
          have F14 := fr_mset (l := [(Str.ofString "first", some (.ref dF)), (Str.ofString "names", some (.ref D))]) F14 (by intro p hp; simp only [List.mem_cons, List.not_mem_nil, or_false] at hp; rcases hp with rfl | rfl <;> rfl)
          have hdF : ∀ p ∈ nx10, p.1 < dF := lF
          have hLF : L1 + 5 < dF := Nat.lt_trans hdH (hdF _ hHm)
          refine for_rangeK (a := 1) (k := H y0) (t := t14) (u := u14) (v := v14) (fun i mm nx => mm (Str.ofString "names") = some (.ref D) ∧ mm (Str.ofString "first") = some (.ref dF) ∧ (∃ v z, Due news L1 nx IsTab (some (.ref dB)) v none (some (.ref dH)) z) ∧ Old L1 nx10 nx ∧
              ∃ nF rs rows, TabS nx dF nF rs rows ∧ rows.length = i ∧ ByH ss H rows)
            rfl ?hE rfl F14 N14 (by rw [Int.add_comm]; exact hr14) (by decide) ?hk ?hj ?turn ?done
          case hE => first | assumption | passes_own | with_unfolding_all passes_own
          case hk => exact Nat.lt_of_le_of_lt (height_le (fun y hy => (hok.2 y hy).1) hHgt hy0) (by omega)
          case hj => exact ⟨rfl, rfl, ⟨_, _, hU10.cons⟩, Old.refl.cons, 0, [], [], ⟨.head _, rfl, fun r hr => (nomatch hr), List.nodup_nil, fun j r row h1 _ => by simp at h1⟩, rfl, fun j row h => by simp at h⟩
          case turn =>
            intro i ti m₁ nx it o h tk R8 X8 hR8 hX8 hi hJ hit hit2 F N
            (try dsimp only)
            obtain ⟨hs1, hs2', ⟨v1, z1, hU⟩, hO, nF, rs, rows, hTab, hlen, hBy⟩ := hJ
            have F := fr_mset (l := [(Str.ofString "first", some (.ref dF)), (Str.ofString "names", some (.ref D))]) F (by simp [hs1, hs2'])
            refine storeCell_I F N hit rfl hU.cz ?_
            intro h4 o4 F4 N4 c4
            have hU4 := hU.setZ c4
            have hO4 := hO.cell (c := L1 + 1 + 1 + 1 + 1 + 1) (o := o4) (Nat.lt_add_of_pos_right (n := L1) (k := 5) (by decide)) (Nat.le_refl _)
            have hTab4 := hTab.set (c := L1 + 1 + 1 + 1 + 1 + 1) (o := o4) hLF
            have hit4 := off_set (o' := o4) hit hU.cz
            generalize ((_ : Addr × Obj) :: but (L1 + 1 + 1 + 1 + 1 + 1) _) = nx4 at N4 hU4 hO4 hTab4 hit4
            clear N hU hO hTab
            obtain ⟨oz4, mz4, dz4⟩ := hU4.cz
            obtain ⟨oh4, mh4, dh4⟩ := hU4.ch
            have hHm4 := hO4 _ hHm (.inr hdH)
            have hTop4 := hTab4.top
            k_steps
            rename Fr _ _ _ _ => F5
            rename News _ _ _ _ => N5
            refine comp_list (l := D) (vs := vn) (n := n) (use := none) (fun j acc nx' => nx' = (it, o) :: nx4 ∧ StrsAre acc (((ss.take j).filter (fun y => decide (H y = i + 1))).map br))
              rfl (by decide) rfl rfl (by have := hs.len_eq; omega) F5 N5 ?hJl2 ?hJa2 ?hj2 ?turn2 ?done2 rfl
            case hJl2 => rintro j acc nx' ⟨rfl, _⟩; exact .tail _ (hU4.old _ hD hD7)
            case hJa2 => rintro j acc nx' ⟨_, h⟩; rw [h.len_eq, List.length_map]; exact Nat.le_trans (List.length_filter_le _ _) (List.length_take_le _ _)
            case hj2 => exact ⟨rfl, .nil⟩
            case turn2 =>
              intro j v acc nx' C oC mC D' nD it2 o2 h tk R9 hR9 hv2 hJ2 hoff hlt1 hlt2 hlt3 hns hmx F N
              (try dsimp only)
              obtain ⟨rfl, hacc⟩ := hJ2
              obtain ⟨y, ty, rfl, hy⟩ := StrsAre.item hs j v hv2
              have hyl : y.length ≤ 100 := (hok.2 y (List.mem_of_getElem? hy)).2
              refine ctests_one ?_
              have hns' : LCg.NsObj oC mC := hns
              obtain ⟨tH, hvalH⟩ := hHv y (List.mem_of_getElem? hy)
              k_steps
              · rename Fr _ _ _ _ => F7
                rename News _ _ _ _ => N7
                rename ((H y : Int) = 1 + (i : Int)) => hyi
                exact hR9 _ _ (CEnd.mk F7 N7 hoff ⟨rfl, strs_yes hacc hy (decide_eq_true (by omega)) (br_eq2 y)⟩)
              · rename Fr _ _ _ _ => F7
                rename News _ _ _ _ => N7
                rename ((H y : Int) ≠ 1 + (i : Int)) => hyi
                exact hR9 _ _ (CEnd.mk F7 N7 hoff ⟨rfl, strs_no hacc hy (decide_eq_false (by omega))⟩)
            case done2 =>
              intro acc nx' D' nD h tk hJ2 hoff hlt F N
              (try dsimp only)
              obtain ⟨rfl, hacc⟩ := hJ2
              (try dsimp only)
              rw [List.take_of_length_le (by have := hs.len_eq; omega)] at hacc
              have hal : acc.length ≤ 11 := by rw [hacc.len_eq, List.length_map]; exact Nat.le_trans (List.length_filter_le _ _) h11
              k_steps
              rename Fr _ _ _ _ => F6
              rename News _ _ _ _ => N6
              refine sorted_N_str F6 N6 (News.isList N6 (.head _)) hacc (by omega) ?_
              intro h7 vs7 ss7 e7 F7 N7 hss7 hp7 hso7
              have hD3 : ∀ p ∈ nx4, p.1 < h.objs.size + 1 := fun p hp => Nat.lt_succ_of_lt (Heap.lt_size (N6 _ (.tail _ (.tail _ hp))).1)
              have hD3it : it < h.objs.size + 1 := Nat.lt_succ_of_lt (Heap.lt_size (N6 (it, o) (.tail _ (.head _))).1)
              generalize h.objs.size + 1 = D3 at N7 hD3 hD3it
              have hitF : it ≠ dF := Ne.symm (hit4 _ hTop4)
              have N7 := news_sub (l' := (it, o) :: (dF, listOf (rs.map Value.ref).toArray nF) :: but dF ((D3, listOf vs7.toArray e7) :: nx4)) N7 (by
                intro p hp
                rcases List.mem_cons.mp hp with rfl | hp
                · exact .tail _ (.tail _ (.head _))
                · rcases List.mem_cons.mp hp with rfl | hp
                  · exact .tail _ (.tail _ (.tail _ hTop4))
                  · rcases List.mem_cons.mp (mem_but.mp hp).1 with rfl | hp
                    · exact .head _
                    · exact .tail _ (.tail _ (.tail _ hp)))
              have hrl : (rs.map Value.ref).length < 1000 := by
                rw [List.length_map, hTab4.len, hlen]
                exact Nat.lt_of_lt_of_le hi (Nat.le_trans (height_le (fun y hy => (hok.2 y hy).1) hHgt hy0) (by omega))
              clear F6 N6 F N
              k_steps
              rename Fr _ _ _ _ => F8
              rename News _ _ _ _ => N8
              rw [show (rs.map Value.ref).toArray.push (Value.ref D3) = ((rs ++ [D3]).map Value.ref).toArray from by simp] at N8
              have hit8 := off_cons (p := (D3, listOf vs7.toArray e7)) hit4 hD3it
              exact hR8 .next _ (FrEnd.mk F8 N8 (off_set (P := fun _ => True) hit8 ⟨_, .tail _ hTop4, trivial⟩) ⟨rfl, rfl, ⟨_, _, hU4.cons.upd hLF⟩, hO4.cons.upd hdF, _, _, _, hTab4.snoc hD3 hss7, by rw [List.length_append, List.length_singleton, hlen], hBy.snoc ⟨by rw [hlen]; exact hp7, hso7⟩⟩)
          case done =>
            intro m20 nx20 h20 tk20 hJ F20 N20
            (try dsimp only)
            obtain ⟨hs20, hs20', ⟨v20, z20, hU20⟩, hO20, nF, rs, rows, hTab20, hlen20, hBy20⟩ := hJ
            have F20 : Fr g1 L1 h20 _ := F20
            have N20 : News g1 L1 h20 nx20 := N20
            have F20 := fr_mset (l := [(Str.ofString "first", some (.ref dF)), (Str.ofString "names", some (.ref D))]) F20 (by simp [hs20, hs20'])
            have hTop20 := hTab20.top
            clear F14 N14 hr14
            k_steps
            refine comp_list_to (l := dF) (vs := rs.map Value.ref) (n := nF) (fun j acc nx' => ∃ rs2 : List Addr, acc = rs2.map Value.ref ∧ rs2.length = j ∧ rs2.Nodup ∧ (∀ r ∈ rs2, (r, listOf ([] : List Value).toArray 0) ∈ nx' ∧ h20.objs.size + 1 < r) ∧ ∀ p ∈ nx20, p ∈ nx')
              rfl (by decide) rfl rfl (by rw [List.length_map, hTab20.len, hlen20]; exact Nat.lt_of_le_of_lt (height_le (fun y hy => (hok.2 y hy).1) hHgt hy0) (by omega)) rfl rfl rfl F20 N20 ?hJl3 ?hJa3 ?hj3 ?turn3 ?done3
            case hJl3 => rintro j acc nx' ⟨rs2, _, _, _, _, h⟩; exact h _ hTop20
            case hJa3 => rintro j acc nx' ⟨rs2, rfl, h, _⟩; rw [List.length_map, h]; exact Nat.le_refl _
            case hj3 => exact ⟨[], rfl, rfl, List.nodup_nil, fun r hr => (nomatch hr), fun p hp => hp⟩
            case turn3 =>
              intro j v acc nx' C oC mC D' nD it2 o2 h tk R9 hR9 hv2 hJ2 hoff hDe hlt1 hlt2 hlt3 hns hmx F N
              (try dsimp only)
              obtain ⟨rs2, rfl, hl2, hnd2, hr2, hold2⟩ := hJ2
              refine ctests_nil ?_
              simp only [if_true]
              have hns' : LCg.NsObj oC mC := hns
              k_steps
              rename_i l7 h7 F7 N7 l17
              have hl17 := allLt_all l17.2.2.2
              refine hR9 _ _ (CEnd.mk (nx := (l7, listOf ([] : List Value).toArray 0) :: nx') F7 (news_sub N7 ?_) (fun p hp => ?_) ⟨rs2 ++ [l7], by simp, by simp [hl2], ?_, fun r hr => ?_, fun p hp => .tail _ (hold2 p hp)⟩)
              · intro p hp
                rcases List.mem_cons.mp hp with rfl | hp
                · exact .tail _ (.head _)
                · rcases List.mem_cons.mp hp with rfl | hp
                  · exact .tail _ (.tail _ (.head _))
                  · rcases List.mem_cons.mp hp with rfl | hp
                    · exact .tail _ (.tail _ (.tail _ (.head _)))
                    · rcases List.mem_cons.mp hp with rfl | hp
                      · exact .head _
                      · exact .tail _ (.tail _ (.tail _ (.tail _ hp)))
              · rcases List.mem_cons.mp hp with rfl | hp
                · exact ⟨Nat.ne_of_gt l17.1, Nat.ne_of_gt l17.2.2.1, Nat.ne_of_gt l17.2.1⟩
                · exact hoff p hp
              · rw [List.nodup_append]
                refine ⟨hnd2, by simp, fun a ha b hb => ?_⟩
                rw [List.mem_singleton.mp hb]
                exact Nat.ne_of_lt (hl17 _ (hr2 a ha).1)
              · rcases List.mem_append.mp hr with hr | hr
                · exact ⟨.tail _ (hr2 r hr).1, (hr2 r hr).2⟩
                · rw [List.mem_singleton.mp hr]
                  exact ⟨.head _, by rw [← hDe]; exact l17.2.2.1⟩
            case done3 =>
              intro acc nx' dS nD h21 tk21 hJ2 hDe hoff21 hlt21 F21 N21
              (try dsimp only)
              obtain ⟨rs2, rfl, hl2, hnd2, hr2, hold2⟩ := hJ2
              have F21 : Fr g1 L1 h21 _ := F21
              have N21 : News g1 L1 h21 _ := N21
              have F21 := fr_mset (l := [(Str.ofString "second", some (.ref dS)), (Str.ofString "first", some (.ref dF)), (Str.ofString "names", some (.ref D))]) F21 (by intro p hp; simp only [List.mem_cons, List.not_mem_nil, or_false] at hp; rcases hp with rfl | rfl | rfl <;> rfl)
              have hTS : TabS ((dS, listOf (rs2.map Value.ref).toArray nD) :: nx') dS nD rs2 (List.replicate rs2.length []) := ⟨.head _, by simp, fun r hr => by rw [hDe]; exact (hr2 r hr).2, hnd2, fun j r row h1 h2 => by
                rw [List.getElem?_replicate] at h2
                split at h2
                · cases h2; exact ⟨0, [], .nil, .tail _ (hr2 r (List.mem_of_getElem? h1)).1⟩
                · cases h2⟩
              have hU21 : Due news L1 ((dS, listOf (rs2.map Value.ref).toArray nD) :: nx') IsTab (some (.ref dB)) v20 none (some (.ref dH)) z20 := hU20.keep (S := []) (fun a ha => nomatch ha) fun p hp _ => .tail _ (hold2 p hp)
              have hO21 : Old L1 nx10 ((dS, listOf (rs2.map Value.ref).toArray nD) :: nx') := fun p hp hh => .tail _ (hold2 p (hO20 p hp hh))
              have hTab21 : TabS ((dS, listOf (rs2.map Value.ref).toArray nD) :: nx') dF nF rs rows := hTab20.keep (S := []) (fun p hp _ => .tail _ (hold2 p hp)) (by simp) (by simp)
              have hrl21 : rs2.length = rows.length := by rw [hl2, List.length_map, hTab20.len]
              have hSF : dF < dS := hlt21 _ hTop20
              have hSrs : ∀ r ∈ rs, r < dS := fun r hr => by obtain ⟨o, hm⟩ := hTab20.mem hr; exact hlt21 _ hm
              have hS10 : ∀ p ∈ nx10, p.1 < dS := fun p hp => Nat.lt_trans (hdF p hp) hSF
              generalize (dS, listOf (rs2.map Value.ref).toArray nD) :: nx' = nx21 at N21 hTS hU21 hO21 hTab21
              clear hU20 hO20 hTab20 hTop20 N20 F20 hoff21 hlt21 hr2 hold2
              k_steps
              rename_i dA h22 lA h22' F22 N22
              have F22 := fr_mset (l := [(Str.ofString "ahead", some (.ref dA)), (Str.ofString "second", some (.ref dS)), (Str.ofString "first", some (.ref dF)), (Str.ofString "names", some (.ref D))]) F22 (by intro p hp; simp only [List.mem_cons, List.not_mem_nil, or_false] at hp; rcases hp with rfl | rfl | rfl | rfl <;> rfl)
              refine sorted_N_str F22 N22 (News.isList N22 (.tail _ (hU21.old _ hD hD7))) hs (by have := hs.len_eq; omega) ?_
              intro h23 vs4 ss4 e4 F23 N23 hss4 hp4 hso4
              have hlt4 : ∀ p ∈ nx21, p.1 < h22'.objs.size + 1 := fun p hp => Nat.lt_succ_of_lt (Heap.lt_size (N22 p (.tail _ hp)).1)
              have hltA4 : dA < h22'.objs.size + 1 := Nat.lt_succ_of_lt (Heap.lt_size (N22 (dA, _) (.head _)).1)
              generalize h22'.objs.size + 1 = D4 at N23 hlt4 hltA4
              have hlA10 : ∀ p ∈ nx10, p.1 < dA := fun p hp => Nat.lt_trans (hS10 p hp) (lA _ hTS.top)
              have hLA : L1 + 5 < dA := hlA10 _ hHm |> Nat.lt_trans hdH
              have hLS : L1 + 5 < dS := Nat.lt_trans hLF hSF
              have hL4 : L1 + 5 < D4 := Nat.lt_trans hLA hltA4
              have hAr : ∀ r ∈ rs2, r < dA := fun r hr => by obtain ⟨o, hm⟩ := hTS.mem hr; exact lA _ hm
              have hsort4 := sorted_strict hso4 (hp4.nodup_iff.mpr hok.1)
              have hU23 := (hU21.cons (p := (dA, listOf ([] : List Value).toArray 0))).cons (p := (D4, listOf vs4.toArray e4))
              have hO23 := (hO21.cons (p := (dA, listOf ([] : List Value).toArray 0))).cons (p := (D4, listOf vs4.toArray e4))
              have hTF23 := (hTab21.cons (p := (dA, listOf ([] : List Value).toArray 0))).cons (p := (D4, listOf vs4.toArray e4))
              have hTS23 := (hTS.cons (p := (dA, listOf ([] : List Value).toArray 0))).cons (p := (D4, listOf vs4.toArray e4))
              have hA23 : (dA, listOf ([] : List Value).toArray 0) ∈ (D4, listOf vs4.toArray e4) :: (dA, listOf ([] : List Value).toArray 0) :: nx21 := .tail _ (.head _)
              have h423 : (D4, listOf vs4.toArray e4) ∈ (D4, listOf vs4.toArray e4) :: (dA, listOf ([] : List Value).toArray 0) :: nx21 := .head _
              have N23 : News g1 L1 h23 ((D4, listOf vs4.toArray e4) :: (dA, listOf ([] : List Value).toArray 0) :: nx21) := N23
              generalize (D4, listOf vs4.toArray e4) :: (dA, listOf ([] : List Value).toArray 0) :: nx21 = nx23 at N23 hU23 hO23 hTF23 hTS23 hA23 h423
              clear N22 F22 N21 F21 hU21 hO21 hTab21 hTS
              obtain ⟨oB, kvsB, hBm, hBd, hBl, hBv⟩ := hB10
              k_steps
              refine for_list (l := D4) (vs := vs4) (n := e4) (fun i mm nx => (mm (Str.ofString "names") = some (.ref D) ∧ mm (Str.ofString "first") = some (.ref dF) ∧ mm (Str.ofString "second") = some (.ref dS) ∧ mm (Str.ofString "ahead") = some (.ref dA)) ∧ (∃ v l z, Due news L1 nx IsTab (some (.ref dB)) v l (some (.ref dH)) z) ∧
                  Old L1 nx10 nx ∧ TabS nx dF nF rs rows ∧ (D4, listOf vs4.toArray e4) ∈ nx ∧ (∃ va nA, (dA, listOf va.toArray nA) ∈ nx ∧ StrsAre va (ss4.take i)) ∧ ∃ rowsS, TabS nx dS nD rs2 rowsS ∧ rowsS.length = rows.length ∧ ByF (ss4.take i) (free sLt bLt ss) rowsS)
                rfl ?hE rfl F23 N23 ?hJl ?hj ?turn ?done
              case hE => first | assumption | passes_own | with_unfolding_all passes_own
              case hJl => rintro i mm nx ⟨_, _, _, _, h, _⟩; exact h
              case hj => exact ⟨⟨rfl, rfl, rfl, rfl⟩, ⟨_, _, _, hU23⟩, hO23, hTF23, h423, ⟨[], 0, hA23, .nil⟩, _, hTS23, by rw [List.length_replicate, hrl21], ByF.start⟩
              case turn =>
                intro i v m₁ nx it o h tk R8 X8 hR8 hX8 hv hJ hit hit2 F N
                (try dsimp only)
                obtain ⟨⟨a1, a2, a3, a4⟩, ⟨v1, l1', z1, hU⟩, hO, hTF, h4m, ⟨va, nA, hAm, hAs⟩, rowsS, hTSx, hlS, hBF⟩ := hJ
                have F := fr_mset (l := [(Str.ofString "ahead", some (.ref dA)), (Str.ofString "second", some (.ref dS)), (Str.ofString "first", some (.ref dF)), (Str.ofString "names", some (.ref D))]) F (by simp [a1, a2, a3, a4])
                obtain ⟨x, tx, rfl, hx⟩ := StrsAre.item hss4 i v hv
                refine storeCell_I F N hit rfl hU.cn ?_
                intro h4 o4 F4 N4 c4
                have hcN : L1 + 1 + 1 < L1 + 5 + 1 := Nat.add_lt_add_left (n := 2) (m := 6) (by decide) L1
                have hcN' : ∀ {q : Nat}, L1 + 5 < q → L1 + 1 + 1 < q := fun hq => Nat.lt_of_lt_of_le hcN hq
                have hU4 := hU.setN c4
                have hO4 := hO.cell (c := L1 + 1 + 1) (o := o4) (Nat.lt_add_of_pos_right (n := L1) (k := 2) (by decide)) (Nat.add_le_add_left (n := 2) (m := 5) (by decide) L1)
                have hTF4 := hTF.set (c := L1 + 1 + 1) (o := o4) (hcN' hLF)
                have hTS4 := hTSx.set (c := L1 + 1 + 1) (o := o4) (hcN' hLS)
                have hit4 := off_set (o' := o4) hit hU.cn
                have h4m4 : (D4, listOf vs4.toArray e4) ∈ (L1 + 1 + 1, o4) :: but (L1 + 1 + 1) nx := .tail _ (mem_but.mpr ⟨h4m, Nat.ne_of_gt (hcN' hL4)⟩)
                have hAm4 : (dA, listOf va.toArray nA) ∈ (L1 + 1 + 1, o4) :: but (L1 + 1 + 1) nx := .tail _ (mem_but.mpr ⟨hAm, Nat.ne_of_gt (hcN' hLA)⟩)
                generalize ((_ : Addr × Obj) :: but (L1 + 1 + 1) _) = nx4 at N4 hU4 hO4 hTF4 hTS4 hit4 h4m4 hAm4
                clear N hU hO hTF hTSx h4m hAm
                have hxm : x ∈ ss := hp4.mem_iff.mp (List.mem_of_getElem? hx)
                obtain ⟨rX, nX, vsX, hvalX, hgtX, hstrX, hrXm⟩ := hBv x hxm
                have hBm4 := hO4 _ hBm (.inr hdB)
                have hrX4 := hO4 _ hrXm (.inr (Nat.lt_trans hdB hgtX))
                obtain ⟨ob4, mb4, db4⟩ := hU4.cb
                obtain ⟨on4, mn4, dn4⟩ := hU4.cn
                k_steps
                rename Fr _ _ _ _ => F5
                rename News _ _ _ _ => N5
                have F5 := fr_mset (l := [(Str.ofString "free", some (.int ((0 : Nat) : Int) _)), (Str.ofString "ahead", some (.ref dA)), (Str.ofString "second", some (.ref dS)), (Str.ofString "first", some (.ref dF)), (Str.ofString "names", some (.ref D))]) F5 (by intro p hp; simp only [List.mem_cons, List.not_mem_nil, or_false] at hp; rcases hp with rfl | rfl | rfl | rfl | rfl <;> rfl)
                have hitL : L1 + 5 < it := Nat.lt_trans hLA (hit2 _ hA23)
                have hbl : ∀ y, (bel ss y).length ≤ 11 := fun y => Nat.le_trans (List.length_filter_le _ _) h11
                refine for_list (l := rX) (vs := vsX) (n := nX) (fun j mm nx => (mm (Str.ofString "names") = some (.ref D) ∧ mm (Str.ofString "first") = some (.ref dF) ∧ mm (Str.ofString "second") = some (.ref dS) ∧ mm (Str.ofString "ahead") = some (.ref dA)) ∧ (∃ tf, mm (Str.ofString "free") = some (.int ((((bel ss x).take j).countP (fun low => !blocked sLt bLt ss x low) : Nat) : Int) tf)) ∧
                    (∃ l z, Due news L1 nx IsTab (some (.ref dB)) (some (.str x tx)) l (some (.ref dH)) z) ∧ Old L1 ((it, o) :: nx4) nx)
                  rfl ?hE6 rfl F5 N5 ?hJl6 ?hj6 ?turn6 ?done6
                case hE6 => first | assumption | passes_own | with_unfolding_all passes_own
                case hJl6 => rintro j mm nx ⟨_, _, _, h⟩; exact h _ (.tail _ hrX4) (.inr (Nat.lt_trans hdB hgtX))
                case hj6 => exact ⟨⟨rfl, rfl, rfl, rfl⟩, ⟨_, rfl⟩, ⟨_, _, hU4.cons⟩, Old.refl⟩
                case turn6 =>
                  intro j v m₂ nxj itj oj h tk R8 X8 hR8 hX8 hv2 hJ2 hitj hitj2 F N
                  (try dsimp only)
                  obtain ⟨⟨a1, a2, a3, a4⟩, ⟨tf, hfree⟩, ⟨l6, z6, hU⟩, hO⟩ := hJ2
                  have F := fr_mset (l := [(Str.ofString "free", some (.int ((((bel ss x).take j).countP (fun low => !blocked sLt bLt ss x low) : Nat) : Int) tf)), (Str.ofString "ahead", some (.ref dA)), (Str.ofString "second", some (.ref dS)), (Str.ofString "first", some (.ref dF)), (Str.ofString "names", some (.ref D))]) F (by simp [a1, a2, a3, a4, hfree])
                  obtain ⟨lo, tlo, rfl, hlo⟩ := StrsAre.item hstrX j v hv2
                  have hlom : lo ∈ ss := (List.mem_filter.mp (List.mem_of_getElem? hlo)).1
                  refine storeCell_I F N hitj rfl hU.cl ?_
                  intro h6 o6 F6 N6 c6
                  have hU6 := hU.setL c6
                  have hO6 := hO.cell (c := L1 + 1 + 1 + 1) (o := o6) (Nat.lt_add_of_pos_right (n := L1) (k := 3) (by decide)) (Nat.add_le_add_left (n := 3) (m := 5) (by decide) L1)
                  have hit6 := off_set (o' := o6) hitj hU.cl
                  generalize ((_ : Addr × Obj) :: but (L1 + 1 + 1 + 1) _) = nx6 at N6 hU6 hO6 hit6
                  clear N hU hO
                  obtain ⟨ob6, mb6, db6⟩ := hU6.cb
                  obtain ⟨on6, mn6, dn6⟩ := hU6.cn
                  obtain ⟨ol6, ml6, dl6⟩ := hU6.cl
                  have hBm6 := hO6 _ (.tail _ hBm4) (.inr hdB)
                  have hrX6 := hO6 _ (.tail _ hrX4) (.inr (Nat.lt_trans hdB hgtX))
                  have hAm6 := hO6 _ (.tail _ hAm4) (.inr hLA)
                  have hlenX := bel_len ss x
                  have hdX : dep sLt bLt ss x < 1000 := by have := hbl x; omega
                  clear hBm4 hrX4 hAm4 mb4 mn4
                  k_steps
                  rename Fr _ _ _ _ => F7
                  rename News _ _ _ _ => N7
                  refine comp_list (l := dA) (vs := va) (n := nA) (use := none) (fun jj acc nx' => nx' = (itj, oj) :: nx6 ∧ StrsAre acc (((ss4.take i).take jj).filter (fun y => rB sLt bLt lo y && decide (dep sLt bLt ss x ≤ dep sLt bLt ss y))))
                    rfl (by decide) rfl rfl (by rw [hAs.len_eq, List.length_take]; have := hp4.length_eq; omega) F7 N7 ?hJl7 ?hJa7 ?hj7 ?turn7 ?done7 rfl
                  case hJl7 => rintro jj acc nx' ⟨rfl, _⟩; exact .tail _ hAm6
                  case hJa7 => rintro jj acc nx' ⟨_, h⟩; rw [h.len_eq]; exact Nat.le_trans (List.length_filter_le _ _) (List.length_take_le _ _)
                  case hj7 => exact ⟨rfl, .nil⟩
                  case turn7 =>
                    intro jj v acc nx' C oC mC D' nD' it7 o7 h tk R9 hR9 hv7 hJ7 hoff hlt1 hlt2 hlt3 hns hmx F N
                    (try dsimp only)
                    obtain ⟨rfl, hacc⟩ := hJ7
                    obtain ⟨y, ty, rfl, hy⟩ := StrsAre.item hAs jj v hv7
                    have hym : y ∈ ss := hp4.mem_iff.mp (List.mem_of_mem_take (List.mem_of_getElem? hy))
                    refine ctests_one ?_
                    have hns' : LCg.NsObj oC mC := hns
                    obtain ⟨rY, nY, vsY, hvalY, hgtY, hstrY, hrYm⟩ := hBv y hym
                    have hrY6 := hO6 _ (.tail _ (hO4 _ hrYm (.inr (Nat.lt_trans hdB hgtY)))) (.inr (Nat.lt_trans hdB hgtY))
                    have hlenY := bel_len ss y
                    have hdY : dep sLt bLt ss y < 1000 := by have := hbl y; omega
                    have hany := any_bel (x := lo) (y := y) hlom
                    cases hr : rB sLt bLt lo y with
                    | false =>
                      rw [hr] at hany
                      k_steps
                      rename Fr _ _ _ _ => F9
                      rename News _ _ _ _ => N9
                      exact hR9 _ _ (CEnd.mk F9 N9 hoff ⟨rfl, filt_no hacc hy (by rw [hr]; rfl)⟩)
                    | true =>
                      rw [hr] at hany
                      k_steps
                      · rename Fr _ _ _ _ => F9
                        rename News _ _ _ _ => N9
                        rename (((dep sLt bLt ss x : Nat) : Int) ≤ _) => hle
                        exact hR9 _ _ (CEnd.mk F9 N9 hoff ⟨rfl, filt_yes hacc hy (by rw [hr, Bool.true_and]; exact decide_eq_true (by omega))⟩)
                      · rename Fr _ _ _ _ => F9
                        rename News _ _ _ _ => N9
                        rename (¬ ((dep sLt bLt ss x : Nat) : Int) ≤ _) => hle
                        exact hR9 _ _ (CEnd.mk F9 N9 hoff ⟨rfl, filt_no hacc hy (by rw [hr, Bool.true_and]; exact decide_eq_false (by omega))⟩)
                  case done7 =>
                    intro acc nx' D' nD' h tk hJ7 hoff hlt F N
                    (try dsimp only)
                    obtain ⟨rfl, hacc⟩ := hJ7
                    (try dsimp only)
                    rw [List.take_of_length_le (by rw [hAs.len_eq]; exact Nat.le_refl _)] at hacc
                    have hbt := blocked_take hp4 hsort4 hx (fun y => rB sLt bLt lo y && decide (dep sLt bLt ss x ≤ dep sLt bLt ss y))
                    rw [show (ss.any fun one => sLt one x && (rB sLt bLt lo one && decide (dep sLt bLt ss x ≤ dep sLt bLt ss one))) = blocked sLt bLt ss x lo from rfl] at hbt
                    have hemp : acc.isEmpty = !blocked sLt bLt ss x lo := by
                      rw [← hbt]
                      have := hacc.len_eq
                      cases acc with
                      | nil => rw [List.length_nil] at this; rw [List.length_eq_zero_iff.mp this.symm]; rfl
                      | cons a b => rw [List.length_cons] at this; rw [List.isEmpty_cons]; cases e : List.filter _ (ss4.take i) with | nil => rw [e] at this; cases this | cons _ _ => rfl
                    cases hbk : blocked sLt bLt ss x lo with
                    | true =>
                      rw [hbk] at hemp
                      have hcnt := count_no (p := fun low => !blocked sLt bLt ss x low) hlo (by rw [hbk]; rfl)
                      k_steps
                      rename Fr _ _ _ _ => F9
                      rename News _ _ _ _ => N9
                      exact hR8 .next _ (FrEnd.mk (news' := nx6) F9 (news_sub N9 (fun p hp => .tail _ (.tail _ hp))) hit6 ⟨⟨rfl, rfl, rfl, rfl⟩, ex_int rfl hcnt, ⟨_, _, hU6⟩, hO6⟩)
                    | false =>
                      rw [hbk] at hemp
                      have hcnt := count_yes (p := fun low => !blocked sLt bLt ss x low) hlo (by rw [hbk]; rfl)
                      k_steps
                      rename Fr _ _ _ _ => F9
                      rename News _ _ _ _ => N9
                      exact hR8 .next _ (FrEnd.mk (news' := nx6) F9 (news_sub N9 (fun p hp => .tail _ (.tail _ hp))) hit6 ⟨⟨rfl, rfl, rfl, rfl⟩, ex_int rfl hcnt, ⟨_, _, hU6⟩, hO6⟩)
                case done6 =>
                  intro m6 nx6 h6 tk6 hJ6 F6 N6
                  (try dsimp only)
                  obtain ⟨⟨a1, a2, a3, a4⟩, ⟨tf, hfree⟩, ⟨l6, z6, hU6⟩, hO6⟩ := hJ6
                  rw [List.take_of_length_le (by rw [hstrX.len_eq]; exact Nat.le_refl _), show (bel ss x).countP (fun low => !blocked sLt bLt ss x low) = free sLt bLt ss x from free_count ss x] at hfree
                  have F6 : Fr g1 L1 h6 _ := F6
                  have N6 : News g1 L1 h6 nx6 := N6
                  have F6 := fr_mset (l := [(Str.ofString "free", some (.int ((free sLt bLt ss x : Nat) : Int) tf)), (Str.ofString "ahead", some (.ref dA)), (Str.ofString "second", some (.ref dS)), (Str.ofString "first", some (.ref dF)), (Str.ofString "names", some (.ref D))]) F6 (by simp [a1, a2, a3, a4, hfree])
                  have hO10 : Old L1 nx10 nx6 := fun p hp hh => hO6 p (.tail _ (hO4 p hp hh)) hh
                  have hTF6 := (hTF4.cons (p := (it, o))).old hO6 hLF
                  have hTS6 := (hTS4.cons (p := (it, o))).old hO6 hLS
                  have h4m6 := hO6 _ (.tail _ h4m4) (.inr hL4)
                  have hAm6 := hO6 _ (.tail _ hAm4) (.inr hLA)
                  have hio6 := hO6 _ (.head _) (.inr hitL)
                  have hAit : dA < it := hit2 _ hA23
                  have h4it : D4 < it := hit2 _ h423
                  have hflt : free sLt bLt ss x < H y0 := free_lt (fun y hy => (hok.2 y hy).1) hok.1 hHgt hxm hMax'
                  have hfR : free sLt bLt ss x < rs2.length := by rw [hrl21, hlen20]; exact hflt
                  have hk1000 : free sLt bLt ss x < 1000 := Nat.lt_trans hflt (Nat.lt_of_le_of_lt (height_le (fun y hy => (hok.2 y hy).1) hHgt hy0) (by omega))
                  obtain ⟨r, hrr⟩ : ∃ r, rs2[free sLt bLt ss x]? = some r := ⟨_, List.getElem?_eq_getElem hfR⟩
                  obtain ⟨rowF, hrowF⟩ : ∃ row, rowsS[free sLt bLt ss x]? = some row := ⟨_, List.getElem?_eq_getElem (by rw [hlS, ← hrl21]; exact hfR)⟩
                  have hrmem := List.mem_of_getElem? hrr
                  have hrA : r < dA := hAr r hrmem
                  have hSr : dS < r := hTS6.gt r hrmem
                  have hLr : L1 + 5 < r := Nat.lt_trans hLS hSr
                  have hb7 : ∀ p ∈ nx6, p.1 ∉ [it] → p ∈ but it nx6 := fun p hp h => mem_but.mpr ⟨hp, by simpa using h⟩
                  have hU7 := hU6.but hitL
                  have hO7 : Old L1 nx10 (but it nx6) := fun p hp hh => mem_but.mpr ⟨hO10 p hp hh, Nat.ne_of_lt (Nat.lt_trans (hlA10 p hp) hAit)⟩
                  have hTF7 := hTF6.keep hb7 (by simp; exact Nat.ne_of_lt (Nat.lt_trans hSF (Nat.lt_trans (Nat.lt_trans hSr hrA) hAit))) (fun q hq => by simp; exact Nat.ne_of_lt (Nat.lt_trans (hSrs q hq) (Nat.lt_trans (Nat.lt_trans hSr hrA) hAit)))
                  have hTS7 := hTS6.keep hb7 (by simp; exact Nat.ne_of_lt (Nat.lt_trans (Nat.lt_trans hSr hrA) hAit)) (fun q hq => by simp; exact Nat.ne_of_lt (Nat.lt_trans (hAr q hq) hAit))
                  have h4m7 := hb7 _ h4m6 (by simp; exact Nat.ne_of_lt h4it)
                  have hAm7 := hb7 _ hAm6 (by simp; exact Nat.ne_of_lt hAit)
                  have hit7 : ∀ p ∈ but it nx6, p.1 ≠ it := but_ne
                  have N7 := news_front N6 hio6
                  generalize but it nx6 = nx7 at hU7 hO7 hTF7 hTS7 h4m7 hAm7 hit7 N7
                  clear hb7 hU6 hO6 hTF6 hTS6 h4m6 hAm6 hio6 N6 hO10
                  obtain ⟨nR, vR, hvR, hrm7⟩ := hTS7.row _ r rowF hrr hrowF
                  have hin : ∀ p ∈ nx7, p.1 ≠ dA → p.1 ≠ r → p ∈ but dA (but r nx7) := fun p hp h1 h2 => mem_but.mpr ⟨mem_but.mpr ⟨hp, h2⟩, h1⟩
                  have N8 := news_sub (l' := (it, o) :: (dA, listOf va.toArray nA) :: (r, listOf vR.toArray nR) :: but dA (but r nx7)) N7 (by
                    intro p hp
                    rcases List.mem_cons.mp hp with rfl | hp
                    · exact .head _
                    · rcases List.mem_cons.mp hp with rfl | hp
                      · exact .tail _ hAm7
                      · rcases List.mem_cons.mp hp with rfl | hp
                        · exact .tail _ hrm7
                        · exact .tail _ (mem_but.mp (mem_but.mp hp).1).1)
                  have hS8 := hin _ hTS7.top (Nat.ne_of_lt (Nat.lt_trans hSr hrA)) (Nat.ne_of_lt hSr)
                  obtain ⟨on8, mn8, dn8⟩ := hU7.cn
                  have hcN8 : L1 + 1 + 1 < r := hcN' hLr
                  have mn8' := hin _ mn8 (Nat.ne_of_lt (Nat.lt_trans hcN8 hrA)) (Nat.ne_of_lt hcN8)
                  have hvl : vR.length < 1000 := by
                    rw [hvR.len_eq, hBF _ _ hrowF]
                    have h1 := List.length_filter_le (fun y => decide (free sLt bLt ss y = free sLt bLt ss x)) (ss4.take i)
                    have h2 := hp4.length_eq
                    rw [List.length_take] at h1
                    omega
                  have hval : va.length < 1000 := by
                    rw [hAs.len_eq, List.length_take]
                    have h2 := hp4.length_eq
                    omega
                  clear N7 mb4 mn4 hBm4 hrX4
                  k_steps
                  rename Fr _ _ _ _ => F9
                  rename News _ _ _ _ => N9
                  have hitr : it ≠ r := Nat.ne_of_gt (Nat.lt_trans hrA hAit)
                  have hArn : dA ≠ r := Nat.ne_of_gt hrA
                  refine append_KF F9 N9 (UpdF.tail hitr (UpdF.tail hArn (UpdF.head fun p hp => but_ne p (mem_but.mp hp).1))) hvl ?_
                  intro h10 F10 N10
                  k_steps
                  refine append_KF F10 N10 (UpdF.tail (Nat.ne_of_gt hAit) (UpdF.head fun p hp => ?_)) hval ?_
                  · rcases List.mem_cons.mp hp with rfl | hp
                    · exact Ne.symm hArn
                    · exact but_ne p hp
                  intro h11 F11 N11
                  k_steps
                  rename Fr _ _ _ _ => F12
                  rename News _ _ _ _ => N12
                  have h10r : ∀ p ∈ nx10, p.1 < r := fun p hp => Nat.lt_trans (hS10 p hp) hSr
                  have hTF8 : TabS ((dA, listOf (va ++ [Value.str x tx]).toArray (nA + 1)) :: but dA ((r, listOf (vR ++ [Value.str x tx]).toArray (nR + 1)) :: but r nx7)) dF nF rs rows := hTF7.keep (S := [r, dA]) (fun p hp h => by
                    rw [List.mem_cons, List.mem_singleton, not_or] at h
                    exact .tail _ (mem_but.mpr ⟨.tail _ (mem_but.mpr ⟨hp, h.1⟩), h.2⟩)) (by rw [List.mem_cons, List.mem_singleton, not_or]; exact ⟨Nat.ne_of_lt (Nat.lt_trans hSF hSr), Nat.ne_of_lt (Nat.lt_trans hSF (Nat.lt_trans hSr hrA))⟩)
                    (fun q hq => by rw [List.mem_cons, List.mem_singleton, not_or]; exact ⟨Nat.ne_of_lt (Nat.lt_trans (hSrs q hq) hSr), Nat.ne_of_lt (Nat.lt_trans (hSrs q hq) (Nat.lt_trans hSr hrA))⟩)
                  have hTS8 := (hTS7.grow (n' := nR + 1) hrr (ss_snoc (t := tx) (y := x) hvR)).keep (nx' := (dA, listOf (va ++ [Value.str x tx]).toArray (nA + 1)) :: but dA ((r, listOf (vR ++ [Value.str x tx]).toArray (nR + 1)) :: but r nx7)) (S := [dA])
                    (fun p hp h => .tail _ (mem_but.mpr ⟨hp, by simpa using h⟩)) (by simp; exact Nat.ne_of_lt (Nat.lt_trans hSr hrA)) (fun q hq => by simp; exact Nat.ne_of_lt (hAr q hq))
                  refine hR8 .next _ (FrEnd.mk (news' := (dA, listOf (va ++ [Value.str x tx]).toArray (nA + 1)) :: but dA ((r, listOf (vR ++ [Value.str x tx]).toArray (nR + 1)) :: but r nx7)) F12 (news_sub N12 (fun p hp => ?_)) (fun p hp => ?_) ⟨⟨rfl, rfl, rfl, rfl⟩, ⟨_, _, _, (hU7.upd hLr).upd hLA⟩, (hO7.upd h10r).upd hlA10, hTF8,
                    .tail _ (mem_but.mpr ⟨.tail _ (mem_but.mpr ⟨h4m7, Nat.ne_of_gt (Nat.lt_trans hrA hltA4)⟩), Nat.ne_of_gt hltA4⟩), ⟨_, _, .head _, by rw [List.take_add_one, hx]; exact ss_snoc hAs⟩, _, hTS8, by rw [List.length_set, hlS], by rw [List.take_add_one, hx]; exact hBF.step hrowF⟩)
                  · rcases List.mem_cons.mp hp with rfl | hp
                    · exact .head _
                    · rcases List.mem_cons.mp hp with rfl | hp
                      · exact .tail _ (.head _)
                      · obtain ⟨hp1, hp2⟩ := mem_but.mp hp
                        rcases List.mem_cons.mp hp1 with rfl | hp1
                        · exact .tail _ (.tail _ (.head _))
                        · exact .tail _ (.tail _ (.tail _ (mem_but.mpr ⟨hp1, hp2⟩)))
                  · rcases List.mem_cons.mp hp with rfl | hp
                    · exact Nat.ne_of_lt hAit
                    · rcases List.mem_cons.mp (mem_but.mp hp).1 with rfl | hp
                      · exact Ne.symm hitr
                      · exact hit7 p (mem_but.mp hp).1
              case done =>
                intro m30 nx30 h30 tk30 hJ F30 N30
                (try dsimp only)
                obtain ⟨⟨a1, a2, a3, a4⟩, ⟨v30, l30, z30, hU30⟩, hO30, hTF30, h430, ⟨va, nA, hAm, hAs⟩, rowsS, hTS30, hlS30, hBF30⟩ := hJ
                have F30 : Fr g1 L1 h30 _ := F30
                have N30 : News g1 L1 h30 nx30 := N30
                have F30 := fr_mset (l := [(Str.ofString "ahead", some (.ref dA)), (Str.ofString "second", some (.ref dS)), (Str.ofString "first", some (.ref dF)), (Str.ofString "names", some (.ref D))]) F30 (by simp [a1, a2, a3, a4])
                rw [List.take_of_length_le (by rw [hss4.len_eq]; exact Nat.le_refl _)] at hBF30
                k_steps
                refine hR0 _ _ ?_
                (try dsimp only)
                k_steps
                rename_i kF kN _ _
                refine hret _ _ _ _ _ _ _ _ _ _ _ _ _ _ _ hHgt hy0 hMax' hlen20 hBy20 hTF30.cons hlS30 hp4 hsort4 hBF30 hTS30.cons (.head _) (fun p hp h => .tail _ (hU30.old p hp h)) (fun p hp => Nat.lt_trans (l1 p hp) (Nat.lt_of_le_of_lt (Nat.le_add_right _ _) hLF)) hSF (Heap.lt_size (N30 _ hTS30.top).1) (let ⟨_, hm, ps, e⟩ := hU30.tb; ⟨ps, .tail _ (e ▸ hm)⟩) kF kN
end
end Mine
end PartC11

section PartU9
open PySem PySem.W PyProof.Rows PySem.Spec PySem.Calls
set_option linter.unusedVariables false
namespace Mine
theorem ins_sorted {α : Type} {lt : α → α → Bool} (O : Strict lt) {l : List α} {x : α} {k : Nat} (hl : l.Pairwise (fun a b => lt a b = true)) (hk : k ≤ l.length) (h1 : ∀ i (h : i < l.length), i < k → lt l[i] x = true) (h2 : ∀ i (h : i < l.length), k ≤ i → lt x l[i] = true) :
    (l.take k ++ x :: l.drop k).Pairwise (fun a b => lt a b = true) := by
  have hpre : ∀ a ∈ l.take k, lt a x = true := fun a ha => by
    obtain ⟨i, hi, rfl⟩ := List.mem_take_iff_getElem.mp ha
    exact h1 i (by omega) (by omega)
  have hpost : ∀ a ∈ l.drop k, lt x a = true := fun a ha => by
    obtain ⟨i, hi, rfl⟩ := List.mem_drop_iff_getElem.mp ha
    exact h2 (k + i) (by omega) (by omega)
  rw [List.pairwise_append, List.pairwise_cons]
  refine ⟨hl.sublist (List.take_sublist _ _), ⟨hpost, hl.sublist (List.drop_sublist _ _)⟩, fun a ha b hb => ?_⟩
  rcases List.mem_cons.mp hb with rfl | hb
  · exact hpre a ha
  · exact O.trans _ _ _ (hpre a ha) (hpost b hb)
theorem ins_perm {α : Type} {l : List α} {x : α} {k : Nat} : (l.take k ++ x :: l.drop k).Perm (l ++ [x]) := by
  refine List.perm_middle.trans ?_
  rw [List.take_append_drop]
  exact (List.perm_append_comm (l₁ := [x]) (l₂ := l))
/-- the state of the two sorted lists -/
def QsOk (w : World) (nx : List (Addr × Obj)) (b : Addr) (vb : List Value) (tb : List Str) : Prop :=
  vb.length = tb.length ∧ ∀ (i : Nat) v x, vb[i]? = some v → tb[i]? = some x → ∃ q d k t, v = .ref q ∧ (q, instObj 145 d) ∈ nx ∧ (d, qd w (br x) k t) ∈ nx ∧ b < d ∧ d < q
theorem QsOk.keep {w : World} {nx nx' : List (Addr × Obj)} {b : Addr} {vb : List Value} {tb : List Str} (h : QsOk w nx b vb tb) (hk : ∀ p ∈ nx, b < p.1 → p ∈ nx') : QsOk w nx' b vb tb :=
  ⟨h.1, fun i v x h1 h2 => by
    obtain ⟨q, d, k, t, e, a1, a2, a3, a4⟩ := h.2 i v x h1 h2
    exact ⟨q, d, k, t, e, hk _ a1 (Nat.lt_trans a3 a4), hk _ a2 a3, a3, a4⟩⟩
theorem QsOk.qs {w : World} {nx : List (Addr × Obj)} {b : Addr} {vb : List Value} {tb : List Str} (h : QsOk w nx b vb tb) : QsAre w nx vb (tb.map br) :=
  ⟨by rw [List.length_map]; exact h.1, fun i v tx h1 h2 => by
    rw [List.getElem?_map] at h2
    cases e : tb[i]? with
    | none => rw [e] at h2; cases h2
    | some x =>
      rw [e] at h2
      cases h2
      obtain ⟨q, d, k, t, e, a1, a2, _⟩ := h.2 i v x h1 e
      exact ⟨q, d, k, t, e, a1, a2⟩⟩
theorem getElem?_ins {α : Type} {l : List α} {x : α} {k i : Nat} {y : α} (hk : k ≤ l.length) (h : (l.take k ++ x :: l.drop k)[i]? = some y) : (i = k ∧ y = x) ∨ (i < k ∧ l[i]? = some y) ∨ (k < i ∧ l[i - 1]? = some y) := by
  have hlt : (l.take k).length = k := by rw [List.length_take]; omega
  rcases Nat.lt_trichotomy i k with q | q | q
  · right; left
    rw [List.getElem?_append_left (by omega), List.getElem?_take_of_lt q] at h
    exact ⟨q, h⟩
  · left
    subst q
    rw [List.getElem?_append_right (by omega), hlt, Nat.sub_self] at h
    cases h; exact ⟨rfl, rfl⟩
  · right; right
    refine ⟨q, ?_⟩
    rw [List.getElem?_append_right (by omega), hlt] at h
    obtain ⟨j, hj⟩ : ∃ j, i - k = j + 1 := ⟨i - k - 1, by omega⟩
    rw [hj, List.getElem?_cons_succ, List.getElem?_drop] at h
    have : k + j = i - 1 := by omega
    rw [this] at h; exact h
theorem QsOk.ins {w : World} {nx : List (Addr × Obj)} {b q d : Addr} {vb : List Value} {tb : List Str} {x : Str} {k : Nat} {kd t : Tok} (h : QsOk w nx b vb tb) (hk : k ≤ tb.length) (h1 : (q, instObj 145 d) ∈ nx) (h2 : (d, qd w (br x) kd t) ∈ nx) (hbd : b < d) (hdq : d < q) :
    QsOk w nx b (vb.take k ++ .ref q :: vb.drop k) (tb.take k ++ x :: tb.drop k) := by
  refine ⟨by simp [h.1], fun i v y h3 h4 => ?_⟩
  have hk' : k ≤ vb.length := by rw [h.1]; exact hk
  rcases getElem?_ins hk' h3 with ⟨a, rfl⟩ | ⟨a, c⟩ | ⟨a, c⟩
  · rcases getElem?_ins hk h4 with ⟨a', rfl⟩ | ⟨a', c'⟩ | ⟨a', c'⟩
    · exact ⟨q, d, kd, t, rfl, h1, h2, hbd, hdq⟩
    · omega
    · omega
  · rcases getElem?_ins hk h4 with ⟨a', rfl⟩ | ⟨a', c'⟩ | ⟨a', c'⟩
    · omega
    · exact h.2 _ _ _ c c'
    · omega
  · rcases getElem?_ins hk h4 with ⟨a', rfl⟩ | ⟨a', c'⟩ | ⟨a', c'⟩
    · omega
    · omega
    · exact h.2 _ _ _ c c'
theorem ss_ins {vs : List Value} {ys : List Str} {x : Str} {t : Tok} (h : StrsAre vs ys) (k : Nat) : StrsAre (vs.take k ++ .str x t :: vs.drop k) (ys.take k ++ x :: ys.drop k) :=
  (h.take' k).append' (.cons x t (h.drop' k))
theorem mono_left {l : List Str} (hl : l.Pairwise (fun a b => sLt a b = true)) (x : Str) : ∀ i j : Nat, i ≤ j → j < l.length → sLt (l.getD j Str.empty) x = true → sLt (l.getD i Str.empty) x = true := by
  intro i j hij hj h
  rw [List.getD_eq_getElem?_getD, List.getElem?_eq_getElem (by omega), Option.getD_some] at h ⊢
  by_cases e : i = j
  · subst e; exact h
  · exact sLt_strict.trans _ _ _ (List.pairwise_iff_getElem.mp hl i j (by omega) hj (by omega)) h
theorem mono_right {l : List Str} (hl : l.Pairwise (fun a b => bLt a b = true)) (x : Str) : ∀ i j : Nat, i ≤ j → j < (l.map br).length → (!sLt (br x) ((l.map br).getD j Str.empty)) = true → (!sLt (br x) ((l.map br).getD i Str.empty)) = true := by
  intro i j hij hj h
  have hj' : j < l.length := by simpa using hj
  have ej : (l.map br).getD j Str.empty = br l[j] := by simp [List.getD_eq_getElem?_getD, hj']
  have ei : (l.map br).getD i Str.empty = br (l[i]'(by omega)) := by simp [List.getD_eq_getElem?_getD, (by omega : i < l.length)]
  rw [ej] at h; rw [ei]
  by_cases e : i = j
  · subst e; exact h
  · rw [Bool.not_eq_true'] at h ⊢
    have h1 := List.pairwise_iff_getElem.mp hl i j (by omega) hj' (by omega)
    cases e2 : sLt (br x) (br (l[i]'(by omega))) with
    | false => rfl
    | true => rw [sLt_strict.trans _ _ _ e2 h1] at h; cases h
theorem cut_left {l : List Str} {x : Str} {k : Nat} (hl : l.Pairwise (fun a b => sLt a b = true)) (hx : x ∉ l) (c : Cut (fun i => sLt (l.getD i Str.empty) x) l.length k) : (l.take k ++ x :: l.drop k).Pairwise (fun a b => sLt a b = true) := by
  obtain ⟨c1, c2, c3⟩ := c
  refine ins_sorted sLt_strict hl c1 (fun i h hi => ?_) fun i h hi => ?_
  · have := c2 i hi
    simpa [List.getD_eq_getElem?_getD, h] using this
  · have := c3 i hi h
    simp only [List.getD_eq_getElem?_getD, List.getElem?_eq_getElem h, Option.getD_some] at this
    exact sLt_strict.gt_of this fun e => hx (e ▸ List.getElem_mem h)
theorem cut_right {l : List Str} {x : Str} {k : Nat} (hl : l.Pairwise (fun a b => bLt a b = true)) (hx : x ∉ l) (c : Cut (fun i => !sLt (br x) ((l.map br).getD i Str.empty)) (l.map br).length k) : k ≤ l.length ∧ (l.take k ++ x :: l.drop k).Pairwise (fun a b => bLt a b = true) := by
  obtain ⟨c1, c2, c3⟩ := c
  rw [List.length_map] at c1 c3
  refine ⟨c1, ins_sorted bLt_strict hl c1 (fun i h hi => ?_) fun i h hi => ?_⟩
  · have := c2 i hi
    simp only [List.getD_eq_getElem?_getD, List.getElem?_map, List.getElem?_eq_getElem h, Option.map_some, Option.getD_some, Bool.not_eq_true'] at this
    exact bLt_strict.gt_of this fun e => hx (e ▸ List.getElem_mem h)
  · have := c3 i hi h
    simp only [List.getD_eq_getElem?_getD, List.getElem?_map, List.getElem?_eq_getElem h, Option.map_some, Option.getD_some, Bool.not_eq_false'] at this
    exact this
end Mine
end PartU9

section PartU10
open PySem PySem.W PyProof.Rows PySem.Spec PySem.Calls
set_option linter.unusedVariables false
namespace Mine
theorem row_of_strs : ∀ {vs : List Value} {ys : List Str}, StrsAre vs ys → ∃ zs : Row, zs.map (·.1) = vs ∧ zs.map (·.2) = ys ∧ ∀ z ∈ zs, ∃ t, z.1 = .str z.2 t
  | _, _, .nil => ⟨[], rfl, rfl, fun z hz => nomatch hz⟩
  | _, _, .cons y t h => by
    obtain ⟨zs, h1, h2, h3⟩ := row_of_strs h
    refine ⟨(.str y t, y) :: zs, by rw [List.map_cons, h1], by rw [List.map_cons, h2], fun z hz => ?_⟩
    rcases List.mem_cons.mp hz with rfl | hz
    · exact ⟨t, rfl⟩
    · exact h3 z hz
theorem slice_neg {z : Str} (h : 3 ≤ z.length) : Txt.slice z (some 1) (some (-2)) = Txt.slice z (some 1) (some ((z.length : Int) - 2)) := by
  have e : PySem.Builtin.Str.strSliceIndices (some 1) (some (-2)) 1 z.length = PySem.Builtin.Str.strSliceIndices (some 1) (some ((z.length : Int) - 2)) 1 z.length := by
    unfold PySem.Builtin.Str.strSliceIndices
    have h1 : ¬ ((z.length : Int) - 2 < 0) := by omega
    have e1 : (-2 : Int) + (z.length : Int) = (z.length : Int) - 2 := by omega
    simp only [if_neg h1, e1, show ((-2 : Int) < 0) from by decide, if_true]
  unfold Txt.slice
  rw [e]
theorem slice_br (x : Str) : Txt.slice (br x) (some 1) (some (-2)) = x := by
  have hl : (br x).cps.toList.length = x.length + 3 := by rw [br_list]; simp [Str.length]
  have hl2 : (br x).length = x.length + 3 := by rw [← hl]; simp [Str.length]
  rw [slice_neg (by omega)]
  have e := slice_closes (x := br x) (i := 1) (j := ((br x).length : Int) - 2) ⟨by omega, by omega, by omega⟩
  rw [beq_iff_eq] at e
  rw [e]
  apply str_ext
  show ((br x).cps.toList.drop (1 : Int).toNat).take (((br x).length : Int) - 2 - 1).toNat = x.cps.toList
  rw [br_list, show (1 : Int).toNat = 1 from rfl, List.drop_succ_cons, List.drop_zero, hl2]
  have e2 : (((x.length + 3 : Nat) : Int) - 2 - 1).toNat = x.cps.toList.length := by rw [str_len]; omega
  rw [e2, List.take_left]
theorem br_len (x : Str) : (br x).length = x.length + 3 := by
  have hl : (br x).cps.toList.length = x.length + 3 := by rw [br_list]; simp [Str.length]
  rw [← hl]; simp [Str.length]
/-- a QName of that name, made behind the tables -/
def IsQ7 (w : World) (news : List (Addr × Obj)) (v : Value) (x : Str) : Prop := ∃ q d k t, v = .ref q ∧ (q, instObj 145 d) ∈ news ∧ (d, qd w (br x) k t) ∈ news ∧ 177 < d ∧ d < q
theorem IsQ7.to6 {w : World} {news : List (Addr × Obj)} {v : Value} {x : Str} (h : IsQ7 w news v x) : IsQ6 w news v x := by
  obtain ⟨q, d, k, t, h1, h2, h3, h4, h5⟩ := h
  exact ⟨q, d, k, t, h1, h2, h3, Nat.ne_of_gt (Nat.lt_trans (Nat.lt_trans (by decide : 156 < 177) h4) h5), Nat.ne_of_gt (Nat.lt_trans (by decide : 156 < 177) h4)⟩
theorem IsQ7.keep {w : World} {nx nx' : List (Addr × Obj)} {v : Value} {x : Str} (h : IsQ7 w nx v x) (hk : ∀ p ∈ nx, p.1 ≠ 156 → p.1 ≠ 177 → p ∈ nx') : IsQ7 w nx' v x := by
  obtain ⟨q, d, k, t, h1, h2, h3, h4, h5⟩ := h
  have e1 : 156 < d := Nat.lt_trans (by decide : 156 < 177) h4
  exact ⟨q, d, k, t, h1, hk _ h2 (Nat.ne_of_gt (Nat.lt_trans e1 h5)) (Nat.ne_of_gt (Nat.lt_trans h4 h5)), hk _ h3 (Nat.ne_of_gt e1) (Nat.ne_of_gt h4), h4, h5⟩
theorem SpotI.tab {X : List (Addr × Obj)} (h : SpotI X) : ∃ o, (156, o) ∈ X := by
  rcases h with rfl | ⟨c, oc, vs, t, rfl, _⟩
  · exact ⟨_, .head _⟩
  · exact ⟨_, .head _⟩
theorem SpotI.tabObj {X : List (Addr × Obj)} (h : SpotI X) : ∃ ps, ((156 : Addr), tabObj ps) ∈ X := by
  rcases h with rfl | ⟨c, oc, vs, t, rfl, _⟩
  · exact ⟨_, .head _⟩
  · exact ⟨_, .head _⟩
theorem sLe_ne {a b : Str} (h : a ≠ b) : sLe a b = sLt a b := by
  unfold sLe
  cases e : sLt b a with
  | true => rw [sLt_strict.not e]; rfl
  | false => rw [sLt_strict.gt_of e h]; rfl
end Mine
end PartU10

section PartU11
open PySem PySem.W PyProof.Rows PySem.Spec PySem.Calls
set_option linter.unusedVariables false
namespace Mine
/-- a list of lists of texts, read only -/
structure TabR (nx : List (Addr × Obj)) (T : Addr) (n : Nat) (rs : List Addr) (rows : List (List Str)) : Prop where
  top : (T, listOf (rs.map Value.ref).toArray n) ∈ nx
  len : rs.length = rows.length
  row : ∀ (j : Nat) r row, rs[j]? = some r → rows[j]? = some row → ∃ n vs, StrsAre vs row ∧ (r, listOf vs.toArray n) ∈ nx
theorem TabS.toR {nx : List (Addr × Obj)} {T : Addr} {n : Nat} {rs : List Addr} {rows : List (List Str)} (x : TabS nx T n rs rows) : TabR nx T n rs rows := ⟨x.top, x.len, x.row⟩
section
variable {prog : Program} {w : World} {A : Around} {E : Value → Shared → Prop} {s : Shared}
theorem all_true {n : Nat} : (List.range n).all (fun _ => true) = true := by simp
theorem eq_strs_at {vs ws : List Value} {ys : List Str} (h1 : StrsAre vs ys) (h2 : StrsAre ws ys) (j : Nat) (e1 : j < vs.length) (e2 : j < ws.length) : PySem.SeqAt.EqAt A.in1 s vs[j] ws[j] true := by
  obtain ⟨x, t, a, hx⟩ := StrsAre.item h1 j vs[j] (List.getElem?_eq_getElem e1)
  obtain ⟨y, u, b, hy⟩ := StrsAre.item h2 j ws[j] (List.getElem?_eq_getElem e2)
  rw [hx] at hy
  cases hy
  have := eq_isStrOf (A := A.in1) (s := s) x u h1 vs[j] (List.getElem_mem e1)
  rw [b]
  rw [a] at this ⊢
  have e : isStrOf x (.str x t) = true := by simp [isStrOf]
  rw [e] at this
  exact this
theorem rc_strs {a b : Addr} {vs ws : List Value} {ys : List Str} (hl : s.heap.IsList a vs.toArray) (hb : s.heap.IsList b ws.toArray) (h1 : StrsAre vs ys) (h2 : StrsAre ws ys) (hu : A.units < cLine) : PySem.SeqAt.RcAt A s (.ref a) (.ref b) true := by
  have := PySem.SeqAt.RcAt.lists (e := fun _ => true) hl hb (by rw [List.size_toArray, List.size_toArray, h1.len_eq, h2.len_eq]) hu fun j e1 e2 => by
    have := eq_strs_at (A := A) (s := s) h1 h2 j (by simpa using e1) (by simpa using e2)
    simpa using this
  rw [all_true] at this
  exact this
theorem eq_tabs_K {h₀ : Heap} {L T1 T2 : Addr} {n1 n2 : Nat} {rs1 rs2 : List Addr} {rows : List (List Str)} {nx : List (Addr × Obj)} {Q : Value → Shared → Prop} (N : News h₀ L s.heap nx) (x1 : TabR nx T1 n1 rs1 rows) (x2 : TabR nx T2 n2 rs2 rows) (hu : A.units + 10 < cLine)
    (h : Q (.bool true) s) : wpAny (model prog w) A (compareOp .Eq (.ref T1) (.ref T2)) Q E s := by
  refine PySem.SeqAt.eq_listAt (e := fun _ => true) (News.isList N x1.top) (News.isList N x2.top) (by simp [x1.len, x2.len]) (by omega) (fun j e1 e2 => ?_) (by rw [all_true]; exact h)
  have e1' : j < rs1.length := by simpa using e1
  have e2' : j < rs2.length := by simpa using e2
  have e3 : j < rows.length := by rw [← x1.len]; exact e1'
  obtain ⟨m1, vs, h1, g1⟩ := x1.row j rs1[j] rows[j] (List.getElem?_eq_getElem e1') (List.getElem?_eq_getElem e3)
  obtain ⟨m2, ws, h2, g2⟩ := x2.row j rs2[j] rows[j] (List.getElem?_eq_getElem e2') (List.getElem?_eq_getElem e3)
  simp only [List.getElem_toArray, List.getElem_map]
  by_cases e : rs1[j] = rs2[j]
  · rw [e]; exact PySem.SeqAt.EqAt.same _
  · refine PySem.SeqAt.EqAt.of_refs e (rc_strs (News.isList N g1) (News.isList N g2) h1 h2 ?_)
    simp only [units_in1]; omega
end
end Mine
end PartU11

section PartM9
open PySem PySem.W PyProof.Rows PySem.Spec PySem.Calls
set_option linter.unusedVariables false
namespace Mine
theorem join_both {ss sa tb ss4 : List Str} {H : Str → Nat} {y0 : Str} {rows1 rows2 : List (List Str)} (hb : ∀ y ∈ ss, NoBrace y) (hn : ss.Nodup) (hpa : sa.Perm ss) (hsa : sa.Pairwise (fun a b => sLt a b = true)) (hpb : tb.Perm ss) (hsb : tb.Pairwise (fun a b => bLt a b = true))
    (hH : IsHeight sLt bLt ss H) (hy0 : y0 ∈ ss) (hmax : ∀ y ∈ ss, H y ≤ H y0) (hl1 : rows1.length = H y0) (hBy : ByH ss H rows1) (hl2 : rows2.length = rows1.length) (hp4 : ss4.Perm ss) (hs4 : ss4.Pairwise (fun a b => sLt a b = true)) (hBF : ByF ss4 (free sLt bLt ss) rows2) :
    rows1 = (sa.foldl (fun t x => tabIns bLt x t) []).map (·.map br) ∧ rows2 = tb.foldl (fun t x => tabIns sLt x t) [] := by
  obtain ⟨r1, r2, hl⟩ := tables (str_orders hb) hn hpa hpb hsa hsb hH
  generalize sa.foldl (fun t x => tabIns bLt x t) [] = A at r1 hl ⊢
  generalize tb.foldl (fun t x => tabIns sLt x t) [] = B at r2 hl ⊢
  have hAl : A.length = H y0 := by
    apply Nat.le_antisymm
    · by_cases e : A.length = 0
      · omega
      · obtain ⟨y, hy, h⟩ := rows_ex r1 (A.length - 1) (Nat.zero_le _) (by omega)
        have := hmax y hy
        omega
    · have hp := hH.pos y0 hy0
      have := rows_lt r1 y0 (H y0 - 1) ⟨hy0, by omega⟩ (Nat.zero_le _)
      omega
  constructor
  · apply List.ext_getElem
    · rw [List.length_map, hl1, hAl]
    · intro j h1 h2
      rw [List.getElem_map]
      have hj : j < A.length := by omega
      obtain ⟨hsort, hmem⟩ := rows_get r1 j hj
      obtain ⟨hp, hso⟩ := hBy j rows1[j] (List.getElem?_eq_getElem h1)
      have hnd : (rows1[j]).Nodup := hp.nodup_iff.mpr (List.pairwise_map.mpr ((hn.filter _).imp fun {a b} h e => h (br_inj e)))
      refine sorted_uniq sLt_strict (sorted_strict hso hnd) (List.pairwise_map.mpr hsort) fun x => ?_
      rw [hp.mem_iff, List.mem_map, List.mem_map]
      constructor
      · rintro ⟨y, hy, rfl⟩
        obtain ⟨a, b⟩ := List.mem_filter.mp hy
        exact ⟨y, (hmem y).mpr ⟨a, by simpa using b⟩, rfl⟩
      · rintro ⟨y, hy, rfl⟩
        obtain ⟨a, b⟩ := (hmem y).mp hy
        exact ⟨y, List.mem_filter.mpr ⟨a, by simpa using b⟩, rfl⟩
  · apply List.ext_getElem
    · omega
    · intro j h1 h2
      obtain ⟨hsort, hmem⟩ := rows_get r2 j h2
      rw [hBF j rows2[j] (List.getElem?_eq_getElem h1)]
      refine sorted_uniq sLt_strict (hs4.filter _) hsort fun x => ?_
      rw [hmem, List.mem_filter, hp4.mem_iff]
      simp
end Mine
end PartM9

section PartC12t
open PySem PySem.W PyProof.Rows PySem.Spec PySem.Calls
set_option linter.unusedVariables false
namespace Mine
def Stop (P : Prop) : Prop := P

local macro_rules | `(tactic| walk_at $s:str) => `(tactic| k_extra $s)
set_option maxRecDepth 100000 in
set_option maxHeartbeats 8000000 in
theorem law_holds : PySem.Challenge.rw_wu0067_01.Holds := Mine.hd (by
  w_top off
  k_go0
  (all_goals try k_fold)
  rename World => ww
  refine wp_holdE (by first | passes_own | with_unfolding_all passes_own) ?_
  intro R0 X0 hR0 hX0
  rename CodeHd _ 160 156 => hC156
  rename CodeHd _ 179 177 => hC177
  k_with_none
  k_with "eval ListComp" => ((k_dflt (refine comp_start (by with_unfolding_all rfl) (by rfl) (by decide) (by intro _; rfl) ?_; (try dsimp only); (try k_fold))))
  k_with "exec For Name Name cons nil" => ((k_dflt (refine for_start ?_ (by intro _; rfl); (try dsimp only); (try k_fold))))
  k_with "subscriptTail" => ((k_dflt ((with_reducible show wpAny _ _ (subscriptTail _ (Expr.Slice (some _) (some _) none _) _ _) _ _ _); (refine slice_strN_ss (hsz := by rw [sizeLine_eq]; omega) (s := ⟨_, _, _, _, _⟩) (by assumption) (by assumption) ?_); intro _ _ _ _ _)))
  k_with "compareOp Eq ref ref" => ((k_dflt (refine (id ?_ : Stop _))))
  k_with "call ref" => ((with_reducible show wpAny _ _ (call (Value.ref 154) _ _) _ _ _); k_dflt (refine names_K (by k_asm) (by k_asm) (by k_asm) (by k_asm) (by k_asm) (by rfl) (by k_room) (by k_units) (by assumption) (by assumption) (by omega) ?_); intro D vn ss n hN tkN nN hs hok hne h11 hD hold hltD FN NN; (try dsimp only); (try k_fold))
  k_with "call ref" => ((with_reducible show wpAny _ _ (call (Value.ref 41) _ _) _ _ _); k_dflt (refine insort_left_K (by k_asm) (by k_asm) (by k_asm) (by k_asm) (by k_asm) (by rfl) (by k_room) (.tail _ (.head _)) (UpdF.tail hitA (UpdF.head hA_all)) hsa (by omega) (mono_left hpa x) ?_); intro kA tA hA tkA cutA FA NA; (try dsimp only); (try k_fold))
  k_with "call ref" => ((with_reducible show wpAny _ _ (call (Value.ref 145) _ _) _ _ _); k_dflt (refine qname_K (by k_asm) (by k_asm) (by k_asm) (by k_asm) (by k_asm) (by rfl) (by k_room) (by k_units) (by omega) ?_); intro qq dq kq tq hq tkq FQ NQ hqd hdq; (try dsimp only); (try k_fold))
  k_with "call ref" => ((with_reducible show wpAny _ _ (call (Value.ref 23) _ _) _ _ _); k_dflt (refine insort_right_K (by k_asm) (by k_asm) (by k_asm) (by k_asm) (by k_asm) (by rfl) (by k_room) (by k_units) (.tail _ (.tail _ (.tail _ (.tail _ (.head _))))) (UpdF.tail (Nat.ne_of_gt (Nat.lt_trans (hqd (dBr, _) (.tail _ (.tail _ (.head _)))) hdq)) (UpdF.tail (Nat.ne_of_gt (hqd (dBr, _) (.tail _ (.tail _ (.head _))))) (UpdF.tail hitB (UpdF.tail hABn (UpdF.head hB_all))))) (hqs.qs.mono (fun p hp => .tail _ (.tail _ (.tail _ (.tail _ (.tail _ hp)))))) (by rw [List.length_map]; omega) (.head _) (.tail _ (.head _)) (mono_right hpb x) ?_); intro kB hB tkB cutB FB NB; (try dsimp only); (try k_fold))
  k_steps
  rename Fr _ _ _ _ => F1
  rename News _ _ _ _ => N1
  rename_i dBa _ l1A _ dBr _ l1B _
  have hABlt : dBa < dBr := l1B.1
  have hltB : ∀ p ∈ nN, p.1 < dBr := allLt_all l1B.2
  have hABn : dBa ≠ dBr := Nat.ne_of_lt hABlt
  have hltA : ∀ p ∈ nN, p.1 < dBa := l1A
  have F1 := fr_mset (l := [(Str.ofString "braced", some (.ref dBr)), (Str.ofString "bare", some (.ref dBa)), (Str.ofString "names", some (.ref D))]) F1 (by intro p hp; simp only [List.mem_cons, List.not_mem_nil, or_false] at hp; rcases hp with rfl | rfl | rfl <;> rfl)
  refine for_list (l := D) (vs := vn) (n := n) (fun i mm nx => (mm (Str.ofString "names") = some (.ref D) ∧ mm (Str.ofString "bare") = some (.ref dBa) ∧ mm (Str.ofString "braced") = some (.ref dBr)) ∧ (∀ p ∈ nN, p ∈ nx) ∧
      (∃ va na sa, (dBa, listOf va.toArray na) ∈ nx ∧ StrsAre va sa ∧ sa.Perm (ss.take i) ∧ sa.Pairwise (fun a b => sLt a b = true)) ∧
      ∃ vb nb tb, (dBr, listOf vb.toArray nb) ∈ nx ∧ QsOk ww nx dBr vb tb ∧ tb.Perm (ss.take i) ∧ tb.Pairwise (fun a b => bLt a b = true))
    rfl ?hE rfl F1 N1 ?hJl ?hj ?turn ?done
  case hE => first | assumption | passes_own | with_unfolding_all passes_own
  case hJl => rintro i mm nx ⟨_, h, _⟩; exact h _ hD
  case hj => exact ⟨⟨rfl, rfl, rfl⟩, fun p hp => .tail _ (.tail _ hp), ⟨[], 0, [], .tail _ (.head _), .nil, .nil, .nil⟩, [], 0, [], .head _, ⟨rfl, fun i v x h => by simp at h⟩, .nil, .nil⟩
  case turn =>
    intro i v m₁ nx it o h tk R8 X8 hR8 hX8 hv hJ hit hit2 F N
    (try dsimp only)
    obtain ⟨⟨a1, a2, a3⟩, hold1, ⟨va, na, sa, hAm, hsa, hpa1, hpa⟩, vb, nb, tb, hBm, hqs0, hpb1, hpb⟩ := hJ
    have F := fr_mset (l := [(Str.ofString "braced", some (.ref dBr)), (Str.ofString "bare", some (.ref dBa)), (Str.ofString "names", some (.ref D))]) F (by simp [a1, a2, a3])
    obtain ⟨x, tx, rfl, hx⟩ := StrsAre.item hs i v hv
    have hxm := List.mem_of_getElem? hx
    have hxl : x.length ≤ 100 := (hok.2 x hxm).2
    have hxn : x ∉ ss.take i := by
      intro hm
      obtain ⟨j, hj, e⟩ := List.mem_take_iff_getElem.mp hm
      obtain ⟨hi, e2⟩ := List.getElem?_eq_some_iff.mp hx
      have := List.pairwise_iff_getElem.mp hok.1 j i (by omega) hi (by omega)
      rw [e, e2] at this
      exact this rfl
    have hxa : x ∉ sa := fun hm => hxn (hpa1.mem_iff.mp hm)
    have hxb : x ∉ tb := fun hm => hxn (hpb1.mem_iff.mp hm)
    have hla : sa.length ≤ 11 := by rw [hpa1.length_eq]; exact Nat.le_trans (List.length_take_le' _ _) h11
    have hlb : tb.length ≤ 11 := by rw [hpb1.length_eq]; exact Nat.le_trans (List.length_take_le' _ _) h11
    have hitA : it ≠ dBa := Ne.symm (hit _ hAm)
    have hitB : it ≠ dBr := Ne.symm (hit _ hBm)
    have N := news_sub (l' := (it, o) :: (dBa, listOf va.toArray na) :: (dBr, listOf vb.toArray nb) :: but dBa (but dBr nx)) N (by
      intro p hp
      rcases List.mem_cons.mp hp with rfl | hp
      · exact .head _
      · rcases List.mem_cons.mp hp with rfl | hp
        · exact .tail _ hAm
        · rcases List.mem_cons.mp hp with rfl | hp
          · exact .tail _ hBm
          · exact .tail _ (mem_but.mp (mem_but.mp hp).1).1)
    have hin : ∀ p ∈ nx, dBr < p.1 → p ∈ but dBa (but dBr nx) := fun p hp h => mem_but.mpr ⟨mem_but.mpr ⟨hp, Nat.ne_of_gt h⟩, Nat.ne_of_gt (Nat.lt_trans hABlt h)⟩
    have hin2 : ∀ p ∈ nN, p ∈ but dBa (but dBr nx) := fun p hp => mem_but.mpr ⟨mem_but.mpr ⟨hold1 p hp, Nat.ne_of_lt (hltB p hp)⟩, Nat.ne_of_lt (hltA p hp)⟩
    have hqs := hqs0.keep hin
    have hitr : ∀ p ∈ but dBa (but dBr nx), p.1 ≠ it := fun p hp => hit p (mem_but.mp (mem_but.mp hp).1).1
    have hB_all : ∀ p ∈ but dBa (but dBr nx), p.1 ≠ dBr := fun p hp => but_ne p (mem_but.mp hp).1
    have hA_all : ∀ p ∈ (dBr, listOf vb.toArray nb) :: but dBa (but dBr nx), p.1 ≠ dBa := fun p hp => by
      rcases List.mem_cons.mp hp with rfl | hp
      · exact Ne.symm hABn
      · exact but_ne p hp
    clear hAm hBm hqs0 hold1
    generalize but dBa (but dBr nx) = nr at N hqs hB_all hA_all hin hin2 hitr
    k_steps
    have hitq : it < dq := hqd (it, o) (.head _)
    have hBq : dBr < dq := hqd (dBr, _) (.tail _ (.tail _ (.head _)))
    have e1 : ∀ {l : List Str}, l.Perm (ss.take i) → (l ++ [x]).Perm (ss.take (i + 1)) := fun hp => by rw [List.take_add_one, hx]; exact hp.append_right _
    obtain ⟨hkB, hpb2⟩ := cut_right hpb hxb cutB
    refine hR8 .next _ (FrEnd.mk (news' := (qq, instObj 145 dq) :: (dq, qd ww (br x) kq tq) :: (dBa, listOf (va.take kA ++ .str x tA :: va.drop kA).toArray (na + 1)) :: (dBr, listOf (vb.take kB ++ .ref qq :: vb.drop kB).toArray (nb + 1)) :: nr) FB (news_sub NB ?_) ?_ ⟨⟨rfl, rfl, rfl⟩, fun p hp => .tail _ (.tail _ (.tail _ (.tail _ (hin2 p hp)))), ⟨_, _, _, .tail _ (.tail _ (.head _)), ss_ins hsa kA, ins_perm.trans (e1 hpa1), cut_left hpa hxa cutA⟩,
      _, _, _, .tail _ (.tail _ (.tail _ (.head _))), (hqs.keep (fun p hp _ => .tail _ (.tail _ (.tail _ (.tail _ hp))))).ins hkB (.head _) (.tail _ (.head _)) hBq hdq, ins_perm.trans (e1 hpb1), hpb2⟩)
    · intro p hp
      rcases List.mem_cons.mp hp with rfl | hp
      · exact .tail _ (.tail _ (.head _))
      · rcases List.mem_cons.mp hp with rfl | hp
        · exact .head _
        · rcases List.mem_cons.mp hp with rfl | hp
          · exact .tail _ (.head _)
          · exact .tail _ (.tail _ (.tail _ hp))
    · intro p hp
      rcases List.mem_cons.mp hp with rfl | hp
      · exact Nat.ne_of_gt (Nat.lt_trans hitq hdq)
      · rcases List.mem_cons.mp hp with rfl | hp
        · exact Nat.ne_of_gt hitq
        · rcases List.mem_cons.mp hp with rfl | hp
          · exact Ne.symm hitA
          · rcases List.mem_cons.mp hp with rfl | hp
            · exact Ne.symm hitB
            · exact hitr p hp
  case done =>
    intro m2 nx2 h2 tk2 hJ F2 N2
    (try dsimp only)
    obtain ⟨⟨a1, a2, a3⟩, hold2, ⟨va, na, sa, hAm, hsa, hpa1, hpa⟩, vb, nb, tb, hBm, hqs2, hpb1, hpb⟩ := hJ
    have F2 := fr_mset (l := [(Str.ofString "braced", some (.ref dBr)), (Str.ofString "bare", some (.ref dBa)), (Str.ofString "names", some (.ref D))]) F2 (by simp [a1, a2, a3])
    rw [List.take_of_length_le (by rw [hs.len_eq]; exact Nat.le_refl _)] at hpa1 hpb1
    have hla : sa.length ≤ 11 := by rw [hpa1.length_eq]; exact h11
    have hlb : tb.length ≤ 11 := by rw [hpb1.length_eq]; exact h11
    clear N1 F1
    k_steps
    have h156n : (156, tabObj #[]) ∈ nx2 := hold2 _ (hold _ (.tail _ (.head _)))
    have h177n : (177, tabObj #[]) ∈ nx2 := hold2 _ (hold _ (.head _))
    have F2' := F2
    refine comp_list (l := dBa) (vs := va) (n := na) (use := none) (fun j acc nx' => (∀ p ∈ nx2, p ∈ nx') ∧ ∃ zs : Row, acc = zs.map (·.1) ∧ zs.map (·.2) = sa.take j ∧ ∀ z ∈ zs, IsQ7 ww nx' z.1 z.2)
      rfl (by decide) rfl rfl (by rw [hsa.len_eq]; omega) F2 N2 ?hJl2 ?hJa2 ?hj2 ?turn2 ?done2 rfl
    case hJl2 => rintro j acc nx' ⟨h, _⟩; exact h _ hAm
    case hJa2 =>
      rintro j acc nx' ⟨_, zs, rfl, h2, _⟩
      have := congrArg List.length h2
      rw [List.length_map, List.length_take] at this
      rw [List.length_map]; omega
    case hj2 => exact ⟨fun p hp => hp, [], rfl, rfl, fun z hz => nomatch hz⟩
    case turn2 =>
      intro j v acc nx' C oC mC D' nD it2 o2 h tk R9 hR9 hv2 hJ2 hoff hlt1 hlt2 hlt3 hns hmx F N
      (try dsimp only)
      obtain ⟨hold3, zs, rfl, hzs2, hzs⟩ := hJ2
      obtain ⟨x, tx, rfl, hx⟩ := StrsAre.item hsa j v hv2
      have hxm : x ∈ ss := hpa1.mem_iff.mp (List.mem_of_getElem? hx)
      have hxl : x.length ≤ 100 := (hok.2 x hxm).2
      refine ctests_nil ?_
      simp only [if_true]
      have hns' : LCg.NsObj oC mC := hns
      k_steps
      have e177 : 177 < dq := hqd (177, _) (.tail _ (.tail _ (.tail _ (hold3 _ h177n))))
      refine hR9 _ _ (CEnd.mk (nx := (qq, instObj 145 dq) :: (dq, qd ww (br x) kq tq) :: nx') FQ (news_sub NQ ?_) (fun p hp => ?_) ⟨fun p hp => .tail _ (.tail _ (hold3 p hp)), zs ++ [(.ref qq, x)], by simp, ?_, fun z hz => ?_⟩)
      · intro p hp
        rcases List.mem_cons.mp hp with rfl | hp
        · exact .tail _ (.tail _ (.head _))
        · rcases List.mem_cons.mp hp with rfl | hp
          · exact .tail _ (.tail _ (.tail _ (.head _)))
          · rcases List.mem_cons.mp hp with rfl | hp
            · exact .tail _ (.tail _ (.tail _ (.tail _ (.head _))))
            · rcases List.mem_cons.mp hp with rfl | hp
              · exact .head _
              · rcases List.mem_cons.mp hp with rfl | hp
                · exact .tail _ (.head _)
                · exact .tail _ (.tail _ (.tail _ (.tail _ (.tail _ hp))))
      · have g1 := hqd (C, oC) (.head _)
        have g2 := hqd (it2, o2) (.tail _ (.head _))
        have g3 := hqd (D', _) (.tail _ (.tail _ (.head _)))
        rcases List.mem_cons.mp hp with rfl | hp
        · exact ⟨Nat.ne_of_gt (Nat.lt_trans g1 hdq), Nat.ne_of_gt (Nat.lt_trans g3 hdq), Nat.ne_of_gt (Nat.lt_trans g2 hdq)⟩
        · rcases List.mem_cons.mp hp with rfl | hp
          · exact ⟨Nat.ne_of_gt g1, Nat.ne_of_gt g3, Nat.ne_of_gt g2⟩
          · exact hoff p hp
      · rw [List.map_append, hzs2, List.take_add_one, hx]; rfl
      · rcases List.mem_append.mp hz with hz | hz
        · obtain ⟨q, d, k, t, a1, a2, a3, a4, a5⟩ := hzs z hz
          exact ⟨q, d, k, t, a1, .tail _ (.tail _ a2), .tail _ (.tail _ a3), a4, a5⟩
        · rw [List.mem_singleton.mp hz]
          exact ⟨qq, dq, kq, tq, rfl, .head _, .tail _ (.head _), e177, hdq⟩
    case done2 =>
      intro acc nx' D3 nD3 h3 tk3 hJ2 hoff hlt F3 N3
      (try dsimp only)
      obtain ⟨hold3, zs1, rfl, hzs2, hzs1⟩ := hJ2
      rw [List.take_of_length_le (by rw [hsa.len_eq]; exact Nat.le_refl _)] at hzs2
      (try dsimp only)
      have hzl : zs1.length ≤ 11 := by have := congrArg List.length hzs2; rw [List.length_map] at this; omega
      have hIs6 : ∀ (nx nx' : List (Addr × Obj)) (v : Value) (x : Str), (∀ p ∈ nx, p.1 ≠ 156 → p ∈ nx') → IsQ6 ww nx v x → IsQ6 ww nx' v x := fun nx nx' v x hk ⟨q, d, k, t, b1, b2, b3, b4, b5⟩ => ⟨q, d, k, t, b1, hk _ b2 b4, hk _ b3 b5, b4, b5⟩
      have hvv1 : ∀ z ∈ zs1, (∃ a, z.1 = .ref a) ∨ (∃ x t, z.1 = .str x t) := fun z hz => let ⟨q, d, k, t, b1, _⟩ := hzs1 z hz; Or.inl ⟨q, b1⟩
      have h156' := hold3 _ h156n
      have hD3n : D3 ≠ 156 := Nat.ne_of_gt (hlt _ h156n)
      have hX01 : ∀ q ∈ [((156 : Addr), tabObj #[])], q ∈ (D3, listOf (zs1.map (·.1)).toArray nD3) :: nx' := fun q hq => by rw [List.mem_singleton.mp hq]; exact .tail _ h156'
      have hz1' : ∀ z ∈ zs1, IsQ6 ww ((D3, listOf (zs1.map (·.1)).toArray nD3) :: nx') z.1 z.2 := fun z hz => hIs6 _ _ _ _ (fun p hp _ => .tail _ hp) (hzs1 z hz).to6
      clear F2 N2 F2'
      k_with "call ref" => ((with_reducible show wpAny _ _ (call (Value.ref 175) _ _) _ _ _); k_dflt (refine (id ?_ : Stop _)))
      k_steps
      unfold Stop
      refine laid_K (zs := zs1) (nT := nD3) (X₀ := [(156, tabObj #[])]) (by k_asm) (by k_asm) (by k_asm) (by k_asm) (by k_asm) (by rfl) hC156 (by k_is) braced_spot leOf_braced hIs6 hvv1 (by k_room) (by k_units) (.head _) hD3n (by omega) (.inl rfl) hX01 hz1' (.tail _ h156') ?_
      intro T1 nT1 rs1 hT tkT nxT XT hTab1 hkeep1 hI1 hXs1 hltT1 hgtT1 hgood1 FT1 NT1
      k_steps
      rename Fr _ _ _ _ => F4
      rename News _ _ _ _ => N4
      have hk4 : ∀ p ∈ nx2, p.1 ≠ 156 → p ∈ nxT := fun p hp hn => hkeep1 p (.tail _ (hold3 p hp)) hn
      have hBr156 : dBr ≠ 156 := Nat.ne_of_gt (hltB _ (hold _ (.tail _ (.head _))))
      have hBm4 := hk4 _ hBm hBr156
      have h156lt : 156 < dBr := hltB _ (hold _ (.tail _ (.head _)))
      refine comp_list (l := dBr) (vs := vb) (n := nb) (use := none) (fun j acc nx' => nx' = nxT ∧ StrsAre acc (tb.take j))
        rfl (by decide) rfl rfl (by rw [hqs2.1]; omega) F4 N4 ?hJl3 ?hJa3 ?hj3 ?turn3 ?done3 rfl
      case hJl3 => rintro j acc nx' ⟨rfl, _⟩; exact hBm4
      case hJa3 => rintro j acc nx' ⟨_, h⟩; rw [h.len_eq]; exact List.length_take_le _ _
      case hj3 => exact ⟨rfl, .nil⟩
      case turn3 =>
        intro j v acc nx' C oC mC D' nD it2 o2 h tk R9 hR9 hv2 hJ2 hoff hlt1 hlt2 hlt3 hns hmx F N
        (try dsimp only)
        obtain ⟨rfl, hacc⟩ := hJ2
        obtain ⟨x, hx⟩ : ∃ x, tb[j]? = some x := ⟨_, List.getElem?_eq_getElem (by rw [← hqs2.1]; exact (List.getElem?_eq_some_iff.mp hv2).1)⟩
        obtain ⟨q, d, kq, tq, rfl, hq1, hq2, hq3, hq4⟩ := hqs2.2 _ _ _ hv2 hx
        have hxl : x.length ≤ 100 := (hok.2 x (hpb1.mem_iff.mp (List.mem_of_getElem? hx))).2
        have hbl : (br x).length ≤ 103 := by rw [br_len]; omega
        have hq1' := hk4 _ hq1 (Nat.ne_of_gt (Nat.lt_trans h156lt (Nat.lt_trans hq3 hq4)))
        have hq2' := hk4 _ hq2 (Nat.ne_of_gt (Nat.lt_trans h156lt hq3))
        refine ctests_nil ?_
        simp only [if_true]
        have hns' : LCg.NsObj oC mC := hns
        k_steps
        rename Fr _ _ _ _ => F7
        rename News _ _ _ _ => N7
        refine hR9 _ _ (CEnd.mk F7 N7 hoff ⟨rfl, ?_⟩)
        rw [slice_br, List.take_add_one, hx]
        exact ss_snoc hacc
      case done3 =>
        intro acc nx' D4 nD4 h4 tk4 hJ2 hoff hlt4 F5 N5
        (try dsimp only)
        obtain ⟨rfl, hacc⟩ := hJ2
        (try dsimp only)
        rw [List.take_of_length_le (by rw [hqs2.1]; exact Nat.le_refl _)] at hacc
        obtain ⟨zs2, rfl, hzs22, hzs2s⟩ := row_of_strs hacc
        obtain ⟨ot, hot⟩ := hI1.tab
        have hot' := hXs1 _ hot
        have hzl2 : zs2.length ≤ 11 := by have := congrArg List.length hzs22; rw [List.length_map] at this; omega
        have hD4n : D4 ≠ 156 := Nat.ne_of_gt (hlt4 _ hot')
        k_steps
        unfold Stop
        refine laid_K (zs := zs2) (nT := nD4) (X₀ := XT) (by k_asm) (by k_asm) (by k_asm) (by k_asm) (by k_asm) (by rfl) hC156 (by k_is) (bare_spot (X₁ := XT)) leOf_bare (fun nx nx' v x _ h => h) (fun z hz => let ⟨t, e⟩ := hzs2s z hz; Or.inr ⟨_, t, e⟩) (by k_room) (by k_units) (.head _) hD4n (by omega) rfl (fun q hq => .tail _ (hXs1 q hq)) hzs2s (.tail _ hot') ?_
        intro T2 nT2 rs2 hT2 tkT2 nxT2 XT2 hTab2 hkeep2 hI2 hXs2 hltT2 hgtT2 hgood2 FT2 NT2
        clear F4 N4 F5 N5
        have hk5 : ∀ p ∈ nx', p.1 ≠ 156 → p ∈ nxT2 := fun p hp hn => hkeep2 p (.tail _ hp) hn
        have hD156 : D ≠ 156 := Nat.ne_of_gt (hltD (156, _) (.tail _ (.head _)))
        have hD177 : D ≠ 177 := Nat.ne_of_gt (hltD (177, _) (.head _))
        have hD5 := hk5 _ (hk4 _ (hold2 _ hD) hD156) hD156
        have h1775 := hk5 _ (hk4 _ h177n (by decide)) (by decide)
        k_with "call ref" => ((with_reducible show wpAny _ _ (call (Value.ref 180) _ _) _ _ _); k_dflt (refine (id ?_ : Stop _)))
        k_steps
        unfold Stop
        refine due_K (by k_asm) (by k_asm) (by k_asm) (by k_asm) (by k_asm) (by rfl) (by k_room) (by k_units) hs hok hne h11 hD5 hD177 hC177 h1775 ?_
        intro P U1 m1 ru1 rows1 U2 m2' ru2 rows2 ss4 H y0 hU tkU nxU hHgt hy0 hMax hlen1 hBy hTU1 hlen2 hp4 hs4 hBF hTU2 hPm hkeepU hltU1 hU12 hU2P ⟨ps7, h177U⟩ FU NU
        k_steps
        rename News _ _ _ _ => N6
        rename Fr _ _ _ _ => F6
        have hT177 : 177 < T1 := hltT1 _ (.tail _ (hold3 _ h177n))
        have hT156 : 156 < T1 := Nat.lt_trans (by decide : 156 < 177) hT177
        have hk6 : ∀ p ∈ nx', p.1 ≠ 156 → p.1 ≠ 177 → p ∈ nxU := fun p hp h1 h2 => hkeepU p (hk5 p hp h1) h2
        have hTab6 := hTab1.keep (S := [156, 177]) (nx' := nxU) (fun p hp h => by
          rw [List.mem_cons, List.mem_singleton, not_or] at h
          exact hk6 p hp h.1 h.2) (by rw [List.mem_cons, List.mem_singleton, not_or]; exact ⟨Nat.ne_of_gt hT156, Nat.ne_of_gt hT177⟩)
          (fun r hr => by rw [List.mem_cons, List.mem_singleton, not_or]; exact ⟨Nat.ne_of_gt (Nat.lt_trans hT156 (hgtT1 r hr)), Nat.ne_of_gt (Nat.lt_trans hT177 (hgtT1 r hr))⟩)
        have hz6 : ∀ z ∈ zs1, IsQ7 ww nxU z.1 z.2 := fun z hz => (hzs1 z hz).keep fun p hp h1 h2 => hk6 p (hkeep1 p (.tail _ hp) h1) h1 h2
        have hrl1 : rs1.length ≤ 11 := by
          rw [hTab1.len]
          exact Nat.le_trans (fold_len (lt := ltP bLt) zs1 []) (by rw [List.length_nil]; omega)
        generalize htA : zs1.foldl (fun t x => tabIns (ltP bLt) x t) [] = tblA at hTab1 hgood1 hTab6 hrl1
        refine comp_list (l := T1) (vs := rs1.map Value.ref) (n := nT1) (use := none) (fun i acc nx => (∀ p ∈ nxU, p ∈ nx) ∧ ∃ as : List Addr, acc = as.map Value.ref ∧ as.length = i ∧ ∀ (j : Nat) a row, as[j]? = some a → tblA[j]? = some row → ∃ n vs, StrsAre vs (row.map fun z => br z.2) ∧ (a, listOf vs.toArray n) ∈ nx)
          rfl (by decide) rfl rfl (by rw [List.length_map]; omega) F6 N6 ?hJl5 ?hJa5 ?hj5 ?turn5 ?done5 rfl
        case hJl5 => rintro i acc nx ⟨h, _⟩; exact h _ hTab6.top
        case hJa5 => rintro i acc nx ⟨_, as, rfl, h, _⟩; rw [List.length_map, h]; exact Nat.le_refl _
        case hj5 => exact ⟨fun p hp => hp, [], rfl, rfl, fun j a row h => by simp at h⟩
        case turn5 =>
          intro i v acc nx C oC mC D' nD it2 o2 h tk R9 hR9 hv2 hJ2 hoff hlt1 hlt2 hlt3 hns hmx F N
          (try dsimp only)
          obtain ⟨hold5, as, rfl, hal, has⟩ := hJ2
          obtain ⟨r, hr, rfl⟩ : ∃ r, rs1[i]? = some r ∧ v = Value.ref r := by
            rw [List.getElem?_map] at hv2
            cases e : rs1[i]? with
            | none => rw [e] at hv2; cases hv2
            | some z => rw [e] at hv2; exact ⟨z, rfl, (Option.some.inj hv2).symm⟩
          obtain ⟨row, hrow⟩ : ∃ row, tblA[i]? = some row := ⟨_, List.getElem?_eq_getElem (by rw [← hTab6.len]; exact (List.getElem?_eq_some_iff.mp hr).1)⟩
          obtain ⟨nR, hrm⟩ := hTab6.row i r row hr hrow
          have hrm5 := hold5 _ hrm
          have hrg := hgood1 row (List.mem_of_getElem? hrow)
          have hrl := hrg.len
          refine ctests_nil ?_
          simp only [if_true]
          have hns' : LCg.NsObj oC mC := hns
          k_steps
          rename Fr _ _ _ _ => F7
          rename News _ _ _ _ => N7
          refine comp_list (l := r) (vs := row.map (·.1)) (n := nR) (use := none) (fun jj acc2 nx2 => nx2 = (C, oC) :: (it2, o2) :: (D', listOf (as.map Value.ref).toArray nD) :: nx ∧ StrsAre acc2 ((row.take jj).map fun z => br z.2))
            rfl (by decide) rfl rfl (by rw [List.length_map]; omega) F7 N7 ?hJl7 ?hJa7 ?hj7 ?turn7 ?done7 rfl
          case hJl7 => rintro jj acc2 nx2 ⟨rfl, _⟩; exact .tail _ (.tail _ (.tail _ hrm5))
          case hJa7 => rintro jj acc2 nx2 ⟨_, h⟩; rw [h.len_eq, List.length_map]; exact List.length_take_le _ _
          case hj7 => exact ⟨rfl, .nil⟩
          case turn7 =>
            intro jj v acc2 nx2 C2 oC2 mC2 D2' nD2 it3 o3 h tk R9 hR9 hv3 hJ3 hoff3 hlt4 hlt5 hlt6 hns2 hmx2 F N
            (try dsimp only)
            obtain ⟨rfl, hacc2⟩ := hJ3
            obtain ⟨z, hz, rfl⟩ : ∃ z, row[jj]? = some z ∧ v = z.1 := by
              rw [List.getElem?_map] at hv3
              cases e : row[jj]? with
              | none => rw [e] at hv3; cases hv3
              | some z => rw [e] at hv3; exact ⟨z, rfl, (Option.some.inj hv3).symm⟩
            obtain ⟨q, d, kq, tq, hze, hq1, hq2, hq3, hq4⟩ := hz6 z (hrg.sub z (List.mem_of_getElem? hz))
            rw [hze] at hmx2
            have hq1' := hold5 _ hq1
            have hq2' := hold5 _ hq2
            refine ctests_nil ?_
            simp only [if_true]
            have hns3 : LCg.NsObj oC2 mC2 := hns2
            k_steps
            rename Fr _ _ _ _ => F9
            rename News _ _ _ _ => N9
            exact hR9 _ _ (CEnd.mk F9 N9 hoff3 ⟨rfl, by rw [List.take_add_one, hz, Option.toList_some, List.map_append]; exact ss_snoc hacc2⟩)
          case done7 =>
            intro acc2 nx2 D6 nD6 h6 tk6 hJ3 hoff6 hlt6 F8 N8
            (try dsimp only)
            obtain ⟨rfl, hacc2⟩ := hJ3
            rw [List.take_of_length_le (by rw [List.length_map]; exact Nat.le_refl _)] at hacc2
            (try dsimp only)
            k_steps
            rename Fr _ _ _ _ => F9
            rename News _ _ _ _ => N9
            have g1 := hlt6 (C, oC) (.head _)
            have g2 := hlt6 (it2, o2) (.tail _ (.head _))
            have g3 := hlt6 (D', _) (.tail _ (.tail _ (.head _)))
            refine hR9 _ _ (CEnd.mk (nx := (D6, listOf acc2.toArray nD6) :: nx) F9 (news_sub N9 (fun p hp => ?_)) (fun p hp => ?_) ⟨fun p hp => .tail _ (hold5 p hp), as ++ [D6], by simp, by simp [hal], fun jj a row' h1 h2 => ?_⟩)
            · rcases List.mem_cons.mp hp with rfl | hp
              · exact .tail _ (.head _)
              · rcases List.mem_cons.mp hp with rfl | hp
                · exact .tail _ (.tail _ (.head _))
                · rcases List.mem_cons.mp hp with rfl | hp
                  · exact .tail _ (.tail _ (.tail _ (.head _)))
                  · rcases List.mem_cons.mp hp with rfl | hp
                    · exact .head _
                    · exact .tail _ (.tail _ (.tail _ (.tail _ hp)))
            · rcases List.mem_cons.mp hp with rfl | hp
              · exact ⟨Nat.ne_of_gt g1, Nat.ne_of_gt g3, Nat.ne_of_gt g2⟩
              · exact hoff p hp
            · by_cases e : jj < as.length
              · rw [List.getElem?_append_left e] at h1
                obtain ⟨n', vs', b1, b2⟩ := has jj a row' h1 h2
                exact ⟨n', vs', b1, .tail _ b2⟩
              · rw [List.getElem?_append_right (by omega)] at h1
                have e3 := (List.getElem?_eq_some_iff.mp h1).1
                simp at e3
                have e4 : jj = i := by omega
                subst e4
                rw [hal, Nat.sub_self] at h1
                cases h1
                rw [hrow] at h2
                cases h2
                exact ⟨_, _, hacc2, .head _⟩
        case done5 =>
          intro acc nx D5 nD5 h5 tk5 hJ5 hoff5 hlt5 F8 N8
          (try dsimp only)
          obtain ⟨hold5, as, rfl, hal, has⟩ := hJ5
          (try dsimp only)
          have hj := join_both (fun y hy => (hok.2 y hy).1) hok.1 hpa1 hpa hpb1 hpb hHgt hy0 hMax hlen1 hBy hlen2 hp4 hs4 hBF
          have hA1 : tblA.map (fun row => row.map fun z => br z.2) = rows1 := by
            rw [hj.1, ← hzs2, ← htA]
            have := fold_map (f := fun z : VN => z.2) (lt := bLt) zs1 []
            rw [List.map_nil] at this
            rw [← this, List.map_map]
            refine List.map_congr_left fun row _ => ?_
            simp
          have hB1 : (zs2.foldl (fun t x => tabIns (ltP sLe) x t) []).map (fun row => row.map fun z => z.2) = rows2 := by
            rw [hj.2]
            have := fold_map (f := fun z : VN => z.2) (lt := sLe) zs2 []
            rw [List.map_nil] at this
            refine this.trans ?_
            rw [hzs22]
            refine fold_congr (fun a b hab => ?_) tb [] (by simpa using hpb1.nodup_iff.mpr hok.1)
            exact sLe_ne hab
          have hTR1 : TabR ((D5, listOf (as.map Value.ref).toArray nD5) :: nx) D5 nD5 as rows1 := ⟨.head _, by rw [← hA1, List.length_map, ← hTab6.len, hal, List.length_map], fun j r row h1 h2 => by
            rw [← hA1, List.getElem?_map] at h2
            cases e : tblA[j]? with
            | none => rw [e] at h2; cases h2
            | some row' =>
              rw [e] at h2
              cases h2
              obtain ⟨n', vs', b1, b2⟩ := has j r row' h1 e
              exact ⟨n', vs', b1, .tail _ b2⟩⟩
          k_steps
          unfold Stop
          refine eq_tabs_K (by k_asm) hTR1 ⟨.tail _ (hold5 _ hTU1.top), hTU1.len, fun j r row h1 h2 => let ⟨n', vs', b1, b2⟩ := hTU1.row j r row h1 h2; ⟨n', vs', b1, .tail _ (hold5 _ b2)⟩⟩ (by k_units) ?_
          k_steps
          unfold Stop
          have g177 : 177 < D4 := hlt4 _ (hk4 _ h177n (by decide))
          have g177' : 177 < T2 := Nat.lt_trans g177 (hltT2 _ (.head _))
          have hTab7 := hTab2.keep (S := [177]) (nx' := (D5, listOf (as.map Value.ref).toArray nD5) :: nx) (fun p hp h => .tail _ (hold5 _ (hkeepU p hp (by simpa using h)))) (by simpa using Nat.ne_of_gt g177')
            (fun r hr => by simpa using Nat.ne_of_gt (Nat.lt_trans g177' (hgtT2 r hr)))
          have hTR2 : TabR ((D5, listOf (as.map Value.ref).toArray nD5) :: nx) T2 nT2 rs2 rows2 := ⟨hTab7.top, by rw [← hB1, List.length_map, ← hTab7.len], fun j r row h1 h2 => by
            rw [← hB1, List.getElem?_map] at h2
            cases e : (zs2.foldl (fun t x => tabIns (ltP sLe) x t) [])[j]? with
            | none => rw [e] at h2; cases h2
            | some row' =>
              rw [e] at h2
              cases h2
              obtain ⟨n', b2⟩ := hTab7.row j r row' h1 e
              exact ⟨n', _, strs_row (fun z hz => hzs2s z ((hgood2 row' (List.mem_of_getElem? e)).sub z hz)), b2⟩⟩
          refine eq_tabs_K (by k_asm) hTR2 ⟨.tail _ (hold5 _ hTU2.top), hTU2.len, fun j r row h1 h2 => let ⟨n', vs', b1, b2⟩ := hTU2.row j r row h1 h2; ⟨n', vs', b1, .tail _ (hold5 _ b2)⟩⟩ (by k_units) ?_
          obtain ⟨ps6, hps6⟩ := hI1.tabObj
          have g6 : ((156 : Addr), tabObj ps6) ∈ (D5, listOf (as.map Value.ref).toArray nD5) :: nx := .tail _ (hold5 _ (hkeepU _ (hXs2 _ (hI2 ▸ hps6)) (show (156 : Addr) ≠ 177 by decide)))
          have g7 : ((177 : Addr), tabObj ps7) ∈ (D5, listOf (as.map Value.ref).toArray nD5) :: nx := .tail _ (hold5 _ h177U)
          k_steps
          refine hR0 _ _ ?_
          (try dsimp only)
          k_steps)
end Mine
end PartC12t

end Walks
theorem PySem.Challenge.cw_wu0067_01_holds : PySem.Challenge.rw_wu0067_01.Holds := by
  exact Mine.law_holds
