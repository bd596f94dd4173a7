import PyProof.Rows.All
import Wide.All
import OpenK.AllK
import Wide.FinOn
import PySem.Sre
import KE.KTurns
import KE.KPairComp
import KE.KIntText
import KE.KSuperObj
import KE.KSuper
import KE.KCallOwn
import KE.KFmtOwn
import Lean
import PySem.Challenge.RW_xl0004_01
set_option Elab.async false
namespace Mine
set_option autoImplicit false

noncomputable abbrev Srt (r : List Nat) : Prop := r.Pairwise (· ≤ ·)

noncomputable def rins : List Nat → Nat → List Nat × Option Nat
  | [], x => ([x], none)
  | a :: r, x => if x < a then (x :: r, some a) else ((a :: (rins r x).1), (rins r x).2)

noncomputable def ins : List (List Nat) → Nat → List (List Nat)
  | [], x => [[x]]
  | r :: T, x => match (rins r x).2 with
    | none => (rins r x).1 :: T
    | some b => (rins r x).1 :: ins T b

noncomputable def insW (T : List (List Nat)) (w : List Nat) : List (List Nat) := w.foldl ins T

noncomputable def rowW : List Nat → List Nat → List Nat × List Nat
  | r, [] => (r, [])
  | r, x :: w => ((rowW (rins r x).1 w).1, (rins r x).2.toList ++ (rowW (rins r x).1 w).2)

theorem insW_append (T : List (List Nat)) (u v : List Nat) : insW T (u ++ v) = insW (insW T u) v := by
  simp [insW]

theorem insW_cons (w : List Nat) : ∀ (r : List Nat) (T : List (List Nat)), insW (r :: T) w = (rowW r w).1 :: insW T (rowW r w).2 := by
  induction w with
  | nil => intro r T; rfl
  | cons x w ih =>
    intro r T
    show insW (ins (r :: T) x) w = _
    simp only [ins, rowW]
    cases h : (rins r x).2 with
    | none => simp only [Option.toList, List.nil_append]; rw [ih]
    | some b => simp only [Option.toList]; rw [ih]; rfl

theorem insW_nil_cons (x : Nat) (w : List Nat) : insW [] (x :: w) = (rowW [] (x :: w)).1 :: insW [] (rowW [] (x :: w)).2 := by
  show insW [[x]] w = _
  rw [insW_cons]; rfl

theorem rins_mem {r : List Nat} {x b : Nat} (h : b ∈ (rins r x).1) : b = x ∨ b ∈ r := by
  induction r with
  | nil => simp [rins] at h; exact .inl h
  | cons a r ih =>
    simp only [rins] at h
    split at h
    · simp only [List.mem_cons] at h ⊢; rcases h with h | h; exact .inl h; exact .inr (.inr h)
    · simp only [List.mem_cons] at h ⊢
      rcases h with h | h
      · exact .inr (.inl h)
      · rcases ih h with h | h
        · exact .inl h
        · exact .inr (.inr h)


theorem srt_cons {a : Nat} {r : List Nat} : Srt (a :: r) ↔ (∀ b ∈ r, a ≤ b) ∧ Srt r := List.pairwise_cons

theorem rins_srt {r : List Nat} {x : Nat} (h : Srt r) : Srt (rins r x).1 := by
  induction r with
  | nil => simp [rins]
  | cons a r ih =>
    obtain ⟨h1, h2⟩ := srt_cons.mp h
    simp only [rins]
    split
    · exact srt_cons.mpr ⟨fun b hb => by have := h1 b hb; omega, h2⟩
    · refine srt_cons.mpr ⟨fun b hb => ?_, ih h2⟩
      rcases rins_mem hb with rfl | hb
      · omega
      · exact h1 b hb

theorem rins_bump {r : List Nat} {x b : Nat} (h : (rins r x).2 = some b) : x < b ∧ b ∈ r := by
  induction r with
  | nil => simp [rins] at h
  | cons a r ih =>
    simp only [rins] at h
    split at h
    · simp only [Option.some.injEq] at h
      subst h
      exact ⟨by assumption, List.mem_cons_self ..⟩
    · obtain ⟨h1, h2⟩ := ih h
      exact ⟨h1, List.mem_cons_of_mem _ h2⟩

theorem rins_none {r : List Nat} {x : Nat} (h : ∀ b ∈ r, b ≤ x) : rins r x = (r ++ [x], none) := by
  induction r with
  | nil => rfl
  | cons a r ih =>
    have := h a (List.mem_cons_self ..)
    simp only [rins]
    rw [if_neg (by omega), ih fun b hb => h b (List.mem_cons_of_mem _ hb)]
    rfl

/-- y then z, y no greater: if z pushes out z', then y pushed out a y' no greater. -/
theorem rins_le {r : List Nat} {y z z' : Nat} (hs : Srt r) (hyz : y ≤ z) (h : (rins (rins r y).1 z).2 = some z') :
    ∃ y', (rins r y).2 = some y' ∧ y' ≤ z' := by
  induction r with
  | nil =>
    simp only [rins] at h
    rw [if_neg (by omega)] at h
    cases h
  | cons a r ih =>
    obtain ⟨h1, h2⟩ := srt_cons.mp hs
    simp only [rins] at h ⊢
    by_cases hya : y < a
    · rw [if_pos hya] at h ⊢
      simp only [rins] at h
      rw [if_neg (by omega)] at h
      exact ⟨a, rfl, h1 _ (rins_bump h).2⟩
    · rw [if_neg hya] at h ⊢
      simp only [rins] at h
      rw [if_neg (by omega)] at h
      exact ih h2 h

/-- z then y, y less: y pushes out a y' no greater than z, out of z and the row. -/
theorem rins_lt {r : List Nat} {y z : Nat} (hs : Srt r) (hyz : y < z) :
    ∃ y', (rins (rins r z).1 y).2 = some y' ∧ y' ≤ z ∧ (y' = z ∨ y' ∈ r) := by
  induction r with
  | nil => exact ⟨z, by simp [rins, hyz], Nat.le_refl _, .inl rfl⟩
  | cons a r ih =>
    obtain ⟨h1, h2⟩ := srt_cons.mp hs
    simp only [rins]
    by_cases hza : z < a
    · rw [if_pos hza]
      exact ⟨z, by simp [rins, hyz], Nat.le_refl _, .inl rfl⟩
    · rw [if_neg hza]
      simp only [rins]
      by_cases hya : y < a
      · rw [if_pos hya]
        exact ⟨a, rfl, by omega, .inr (List.mem_cons_self ..)⟩
      · rw [if_neg hya]
        obtain ⟨y', e, l, m⟩ := ih h2
        exact ⟨y', e, l, m.imp id (List.mem_cons_of_mem _)⟩

inductive K : List Nat → List Nat → Prop
  | refl (u : List Nat) : K u u
  | k1 (x y z : Nat) : x < y → y ≤ z → K [y, z, x] [y, x, z]
  | k2 (x y z : Nat) : x ≤ y → y < z → K [x, z, y] [z, x, y]

theorem rins_pos {a x : Nat} (r : List Nat) (h : x < a) : rins (a :: r) x = (x :: r, some a) := by simp [rins, h]
theorem rins_neg {a x : Nat} (r : List Nat) (h : ¬ x < a) : rins (a :: r) x = (a :: (rins r x).1, (rins r x).2) := by simp [rins, h]

theorem rowK1 {r : List Nat} {x y z : Nat} (hs : Srt r) (hxy : x < y) (hyz : y ≤ z) :
    (rowW r [y, z, x]).1 = (rowW r [y, x, z]).1 ∧ K (rowW r [y, z, x]).2 (rowW r [y, x, z]).2 := by
  have f1 : ¬ z < y := by omega
  have f2 : ¬ z < x := by omega
  induction r with
  | nil =>
    have e1 : rowW [] [y, z, x] = ([x, z], [y]) := by simp [rowW, rins, f1, hxy]
    have e2 : rowW [] [y, x, z] = ([x, z], [y]) := by simp [rowW, rins, f2, hxy]
    rw [e1, e2]
    exact ⟨rfl, .refl _⟩
  | cons a r ih =>
    obtain ⟨h1, h2⟩ := srt_cons.mp hs
    by_cases hxa : x < a
    · by_cases hya : y < a
      · have e1 : rowW (a :: r) [y, z, x] = (x :: (rins r z).1, a :: ((rins r z).2.toList ++ [y])) := by simp [rowW, rins, hya, f1, hxy]
        have e2 : rowW (a :: r) [y, x, z] = (x :: (rins r z).1, a :: y :: (rins r z).2.toList) := by simp [rowW, rins, hya, f2, hxy]
        rw [e1, e2]
        refine ⟨rfl, ?_⟩
        cases hb : (rins r z).2 with
        | none => exact .refl _
        | some z' => exact .k1 _ _ _ hya (h1 _ (rins_bump hb).2)
      · have f3 : ¬ z < a := by omega
        have e1 : rowW (a :: r) [y, z, x] = (x :: (rins (rins r y).1 z).1, (rins r y).2.toList ++ ((rins (rins r y).1 z).2.toList ++ [a])) := by
          simp [rowW, rins, hya, f3, hxa]
        have e2 : rowW (a :: r) [y, x, z] = (x :: (rins (rins r y).1 z).1, (rins r y).2.toList ++ (a :: (rins (rins r y).1 z).2.toList)) := by
          simp [rowW, rins, hya, f2, hxa]
        rw [e1, e2]
        refine ⟨rfl, ?_⟩
        cases hb : (rins (rins r y).1 z).2 with
        | none => exact .refl _
        | some z' =>
          obtain ⟨y', e, l⟩ := rins_le h2 hyz hb
          rw [e]
          exact .k1 _ _ _ (by have := (rins_bump e).1; omega) l
    · obtain ⟨i1, i2⟩ := ih h2
      have f3 : ¬ z < a := by omega
      have f4 : ¬ y < a := by omega
      have e1 : rowW (a :: r) [y, z, x] = (a :: (rowW r [y, z, x]).1, (rowW r [y, z, x]).2) := by simp [rowW, rins, f3, f4, hxa]
      have e2 : rowW (a :: r) [y, x, z] = (a :: (rowW r [y, x, z]).1, (rowW r [y, x, z]).2) := by simp [rowW, rins, f3, f4, hxa]
      rw [e1, e2]
      exact ⟨congrArg (a :: ·) i1, i2⟩

theorem rowK2 {r : List Nat} {x y z : Nat} (hs : Srt r) (hxy : x ≤ y) (hyz : y < z) :
    (rowW r [x, z, y]).1 = (rowW r [z, x, y]).1 ∧ K (rowW r [x, z, y]).2 (rowW r [z, x, y]).2 := by
  have f1 : ¬ z < x := by omega
  have f2 : ¬ y < x := by omega
  have f5 : x < z := by omega
  induction r with
  | nil =>
    have e1 : rowW [] [x, z, y] = ([x, y], [z]) := by simp [rowW, rins, f1, f2, hyz]
    have e2 : rowW [] [z, x, y] = ([x, y], [z]) := by simp [rowW, rins, f5, f2]
    rw [e1, e2]
    exact ⟨rfl, .refl _⟩
  | cons a r ih =>
    obtain ⟨h1, h2⟩ := srt_cons.mp hs
    by_cases hxa : x < a
    · by_cases hza : z < a
      · cases r with
        | nil =>
          have e1 : rowW [a] [x, z, y] = ([x, y], [a, z]) := by simp [rowW, rins, f1, f2, hyz, hxa]
          have e2 : rowW [a] [z, x, y] = ([x, y], [a, z]) := by simp [rowW, rins, hza, f5, f2]
          rw [e1, e2]
          exact ⟨rfl, .refl _⟩
        | cons h t =>
          have := h1 h (List.mem_cons_self ..)
          have f6 : z < h := by omega
          have f7 : y < h := by omega
          have e1 : rowW (a :: h :: t) [x, z, y] = (x :: y :: t, [a, h, z]) := by simp [rowW, rins, f1, f2, hyz, hxa, f6]
          have e2 : rowW (a :: h :: t) [z, x, y] = (x :: y :: t, [a, z, h]) := by simp [rowW, rins, hza, f5, f2, f7]
          rw [e1, e2]
          exact ⟨rfl, .k1 _ _ _ hza this⟩
      · have e1 : rowW (a :: r) [x, z, y] = (x :: (rins (rins r z).1 y).1, a :: ((rins r z).2.toList ++ (rins (rins r z).1 y).2.toList)) := by
          simp [rowW, rins, hxa, f1, f2]
        have e2 : rowW (a :: r) [z, x, y] = (x :: (rins (rins r z).1 y).1, (rins r z).2.toList ++ (a :: (rins (rins r z).1 y).2.toList)) := by
          simp [rowW, rins, hza, hxa, f2]
        rw [e1, e2]
        refine ⟨rfl, ?_⟩
        obtain ⟨y', e, l, m⟩ := rins_lt (r := r) h2 hyz
        rw [e]
        cases hb : (rins r z).2 with
        | none => exact .refl _
        | some z' =>
          refine .k2 _ _ _ ?_ ?_
          · rcases m with rfl | m
            · omega
            · exact h1 _ m
          · have := (rins_bump hb).1; omega
    · obtain ⟨i1, i2⟩ := ih h2
      have f3 : ¬ z < a := by omega
      have f4 : ¬ y < a := by omega
      have e1 : rowW (a :: r) [x, z, y] = (a :: (rowW r [x, z, y]).1, (rowW r [x, z, y]).2) := by simp [rowW, rins, f3, f4, hxa]
      have e2 : rowW (a :: r) [z, x, y] = (a :: (rowW r [z, x, y]).1, (rowW r [z, x, y]).2) := by simp [rowW, rins, f3, f4, hxa]
      rw [e1, e2]
      exact ⟨congrArg (a :: ·) i1, i2⟩

theorem rowK {r u v : List Nat} (hs : Srt r) (h : K u v) : (rowW r u).1 = (rowW r v).1 ∧ K (rowW r u).2 (rowW r v).2 := by
  cases h with
  | refl => exact ⟨rfl, .refl _⟩
  | k1 x y z a b => exact rowK1 hs a b
  | k2 x y z a b => exact rowK2 hs a b

noncomputable abbrev Srts (T : List (List Nat)) : Prop := ∀ r ∈ T, Srt r

theorem insK_nil {u v : List Nat} (h : K u v) : insW [] u = insW [] v := by
  cases h with
  | refl => rfl
  | k1 x y z a b =>
    have f1 : ¬ z < y := by omega
    have f2 : ¬ z < x := by omega
    simp [insW, ins, rins, f1, f2, a]
  | k2 x y z a b =>
    have f1 : ¬ z < x := by omega
    have f2 : ¬ y < x := by omega
    have f5 : x < z := by omega
    simp [insW, ins, rins, f1, f2, f5, b]

theorem insK : ∀ (T : List (List Nat)), Srts T → ∀ {u v : List Nat}, K u v → insW T u = insW T v
  | [], _, _, _, h => insK_nil h
  | r :: T, hs, u, v, h => by
    obtain ⟨a, b⟩ := rowK (hs r (List.mem_cons_self ..)) h
    rw [insW_cons, insW_cons, a, insK T (fun r hr => hs r (List.mem_cons_of_mem _ hr)) b]

theorem ins_srt : ∀ (T : List (List Nat)) (x : Nat), Srts T → Srts (ins T x)
  | [], x, _ => by intro r hr; simp [ins] at hr; subst hr; simp
  | r :: T, x, hs => by
    have h1 := rins_srt (x := x) (hs r (List.mem_cons_self ..))
    have h2 : Srts T := fun r hr => hs r (List.mem_cons_of_mem _ hr)
    simp only [ins]
    cases hb : (rins r x).2 with
    | none => intro q hq; rcases List.mem_cons.mp hq with rfl | hq; exact h1; exact h2 q hq
    | some b => intro q hq; rcases List.mem_cons.mp hq with rfl | hq; exact h1; exact ins_srt T b h2 q hq

theorem insW_srt (w : List Nat) : ∀ (T : List (List Nat)), Srts T → Srts (insW T w) := by
  induction w with
  | nil => exact fun T h => h
  | cons x w ih => exact fun T h => ih _ (ins_srt T x h)

inductive KE : List Nat → List Nat → Prop
  | refl (u : List Nat) : KE u u
  | symm {u v : List Nat} : KE u v → KE v u
  | trans {u v w : List Nat} : KE u v → KE v w → KE u w
  | at (p q : List Nat) {u v : List Nat} : K u v → KE (p ++ (u ++ q)) (p ++ (v ++ q))

theorem KE.pre {u v : List Nat} (p : List Nat) (h : KE u v) : KE (p ++ u) (p ++ v) := by
  induction h with
  | refl => exact .refl _
  | symm _ ih => exact ih.symm
  | trans _ _ a b => exact a.trans b
  | «at» p' q k => rw [← List.append_assoc, ← List.append_assoc p]; exact .at _ _ k

theorem KE.post {u v : List Nat} (q : List Nat) (h : KE u v) : KE (u ++ q) (v ++ q) := by
  induction h with
  | refl => exact .refl _
  | symm _ ih => exact ih.symm
  | trans _ _ a b => exact a.trans b
  | «at» p' q' k => rw [List.append_assoc, List.append_assoc, List.append_assoc, List.append_assoc]; exact .at _ _ k

theorem KE.insW {u v : List Nat} (h : KE u v) : ∀ T, Srts T → insW T u = insW T v := by
  induction h with
  | refl => exact fun _ _ => rfl
  | symm _ ih => exact fun T hT => (ih T hT).symm
  | trans _ _ a b => exact fun T hT => (a T hT).trans (b T hT)
  | «at» p q k =>
    intro T hT
    rw [insW_append, insW_append, insW_append, insW_append, insK _ (insW_srt _ _ hT) k]

theorem KE.cons {u v : List Nat} (a : Nat) (h : KE u v) : KE (a :: u) (a :: v) := h.pre [a]
theorem KE.of_eq {u v : List Nat} (h : u = v) : KE u v := h ▸ .refl _
theorem ke1 (p q : List Nat) {x y z : Nat} (a : x < y) (b : y ≤ z) : KE (p ++ y :: z :: x :: q) (p ++ y :: x :: z :: q) := .at p q (.k1 x y z a b)
theorem ke2 (p q : List Nat) {x y z : Nat} (a : x ≤ y) (b : y < z) : KE (p ++ x :: z :: y :: q) (p ++ z :: x :: y :: q) := .at p q (.k2 x y z a b)



/-! rows of tableaux under one another -/

theorem KE.shift1 {x : Nat} : ∀ (d : Nat) (D : List Nat), x < d → Srt (d :: D) → KE (d :: D ++ [x]) (d :: x :: D)
  | d, [], _, _ => .refl _
  | d, e :: D, h, hs => by
    obtain ⟨h1, h2⟩ := srt_cons.mp hs
    have hde := h1 e (List.mem_cons_self ..)
    have a : KE (d :: (e :: D ++ [x])) (d :: e :: x :: D) := (KE.shift1 e D (by omega) h2).cons d
    exact a.trans (ke1 [] D h hde)

theorem KE.shift2 {a z : Nat} (haz : a < z) : ∀ (P : List Nat), Srt P → (∀ p ∈ P, p ≤ a) → KE (P ++ [z, a]) (z :: P ++ [a])
  | [], _, _ => .refl _
  | p :: P, hs, hp => by
    obtain ⟨h1, h2⟩ := srt_cons.mp hs
    have i : KE (p :: (P ++ [z, a])) (p :: (z :: P ++ [a])) := (KE.shift2 haz P h2 fun q hq => hp q (List.mem_cons_of_mem _ hq)).cons p
    refine i.trans ?_
    cases P with
    | nil => exact ke2 [] [] (hp p (List.mem_cons_self ..)) haz
    | cons q Q =>
      have := hp q (List.mem_cons_of_mem _ (List.mem_cons_self ..))
      exact ke2 [] (Q ++ [a]) (h1 q (List.mem_cons_self ..)) (by omega)

theorem KE.bump {a z : Nat} {P Q : List Nat} (haz : a < z) (hs : Srt (P ++ z :: Q)) (hp : ∀ p ∈ P, p ≤ a) :
    KE (P ++ z :: Q ++ [a]) (z :: P ++ a :: Q) := by
  obtain ⟨h1, h2, _⟩ := List.pairwise_append.mp hs
  have i : KE (P ++ (z :: Q ++ [a])) (P ++ (z :: a :: Q)) := (KE.shift1 z Q haz h2).pre P
  have j : KE ((P ++ [z, a]) ++ Q) ((z :: P ++ [a]) ++ Q) := (KE.shift2 haz P h1 hp).post Q
  have e1 : P ++ z :: Q ++ [a] = P ++ (z :: Q ++ [a]) := by simp
  have e2 : P ++ (z :: a :: Q) = (P ++ [z, a]) ++ Q := by simp
  have e3 : (z :: P ++ [a]) ++ Q = z :: P ++ a :: Q := by simp
  rw [e1]; refine i.trans ?_; rw [e2, ← e3]; exact j

/-- the first row stands above the second, column by column, and is no shorter -/
noncomputable def Cov : List Nat → List Nat → Prop
  | _, [] => True
  | [], _ :: _ => False
  | b :: B, d :: D => b < d ∧ Cov B D

/-- the same, of like lengths -/
noncomputable def Abv : List Nat → List Nat → Prop
  | [], [] => True
  | a :: A, c :: C => a < c ∧ Abv A C
  | _, _ => False

theorem cov_nil (B : List Nat) : Cov B [] := by cases B <;> trivial
theorem cov_cons {b d : Nat} {B D : List Nat} : Cov (b :: B) (d :: D) ↔ b < d ∧ Cov B D := Iff.rfl

theorem KE.down0 {x : Nat} : ∀ (D B : List Nat), Srt (x :: D) → Srt B → Cov B D → (∀ b ∈ B, x ≤ b) → KE (x :: D ++ B) (D ++ x :: B)
  | [], B, _, _, _, _ => .refl _
  | d :: D, [], _, _, h, _ => h.elim
  | d :: D, b :: B, hD, hB, hc, hx => by
    obtain ⟨hbd, hc⟩ := cov_cons.mp hc
    obtain ⟨x1, x2⟩ := srt_cons.mp hD
    obtain ⟨d1, d2⟩ := srt_cons.mp x2
    obtain ⟨b1, b2⟩ := srt_cons.mp hB
    have hxb := hx b (List.mem_cons_self ..)
    have hxd := x1 d (List.mem_cons_self ..)
    have hbD : ∀ e ∈ D, b ≤ e := fun e he => by have := d1 e he; omega
    -- x d D b B ~ x d b D B ~ d x b D B ~ d x D b B ~ d D x b B
    have s1 : KE ([x] ++ ((d :: D ++ [b]) ++ B)) ([x] ++ ((d :: b :: D) ++ B)) := ((KE.shift1 d D hbd x2).post B).pre [x]
    have s2 : KE ([] ++ x :: d :: b :: (D ++ B)) ([] ++ d :: x :: b :: (D ++ B)) := ke2 [] _ hxb hbd
    have s3 : KE ([d, x] ++ (b :: D ++ B)) ([d, x] ++ (D ++ b :: B)) :=
      (KE.down0 D B (srt_cons.mpr ⟨hbD, d2⟩) b2 hc b1).pre [d, x]
    have s4 : KE ((d :: D ++ [x]) ++ (b :: B)) ((d :: x :: D) ++ (b :: B)) := by
      by_cases hlt : x < d
      · exact (KE.shift1 d D hlt x2).post _
      · omega
    have e1 : x :: (d :: D) ++ (b :: B) = [x] ++ ((d :: D ++ [b]) ++ B) := by simp
    have e2 : [x] ++ ((d :: b :: D) ++ B) = [] ++ x :: d :: b :: (D ++ B) := by simp
    have e3 : [] ++ d :: x :: b :: (D ++ B) = [d, x] ++ (b :: D ++ B) := by simp
    have e4 : [d, x] ++ (D ++ b :: B) = (d :: x :: D) ++ (b :: B) := by simp
    have e5 : (d :: D ++ [x]) ++ (b :: B) = d :: D ++ x :: b :: B := by simp
    rw [e1]; refine s1.trans ?_
    rw [e2]; refine s2.trans ?_
    rw [e3]; refine s3.trans ?_
    rw [e4, ← e5]; exact s4.symm

/-- the first sign of a row above a -/
theorem first_above {a : Nat} : ∀ (C : List Nat), Srt C → (∃ c ∈ C, a < c) → ∃ P z Q, C = P ++ z :: Q ∧ a < z ∧ ∀ p ∈ P, p ≤ a
  | [], _, ⟨_, h, _⟩ => by cases h
  | c :: C, hs, h => by
    obtain ⟨h1, h2⟩ := srt_cons.mp hs
    by_cases hc : a < c
    · exact ⟨[], c, C, rfl, hc, fun _ h => (nomatch h)⟩
    · obtain ⟨e, he, hae⟩ := h
      rcases List.mem_cons.mp he with rfl | he
      · omega
      · obtain ⟨P, z, Q, rfl, hz, hp⟩ := first_above C h2 ⟨e, he, hae⟩
        exact ⟨c :: P, z, Q, rfl, hz, fun p hpp => by rcases List.mem_cons.mp hpp with rfl | hpp; omega; exact hp p hpp⟩

theorem KE.down {x : Nat} {D B : List Nat} (hB : Srt B) (hc : Cov B D) (hx : ∀ b ∈ B, x ≤ b) :
    ∀ (A C₁ C₂ : List Nat), Abv A C₂ → Srt (C₁ ++ C₂ ++ x :: D) → KE (C₁ ++ C₂ ++ x :: D ++ A ++ B) (C₁ ++ C₂ ++ D ++ A ++ x :: B)
  | [], C₁, [], _, hs => by
    have h := (KE.down0 D B (List.pairwise_append.mp hs).2.1 hB hc hx).pre (C₁ ++ [])
    simpa using h
  | [], C₁, _ :: _, h, _ => h.elim
  | _ :: _, C₁, [], h, _ => h.elim
  | a :: A, C₁, c :: C₂, h, hs => by
    obtain ⟨hac, hA⟩ : a < c ∧ Abv A C₂ := h
    have hsC : Srt (C₁ ++ c :: C₂) := (List.pairwise_append.mp hs).1
    -- the sign that a pushes out stands in C₁ or is c
    have key : ∃ P z Q, C₁ ++ c :: C₂ = P ++ z :: (Q ++ C₂) ∧ a < z ∧ ∀ p ∈ P, p ≤ a := by
      by_cases hC : ∃ e ∈ C₁, a < e
      · obtain ⟨P, z, Q, rfl, hz, hp⟩ := first_above C₁ (List.pairwise_append.mp hsC).1 hC
        exact ⟨P, z, Q ++ [c], by simp, hz, hp⟩
      · exact ⟨C₁, c, [], by simp, hac, fun p hp => Nat.le_of_not_lt fun hl => hC ⟨p, hp, hl⟩⟩
    obtain ⟨P, z, Q, e, hz, hp⟩ := key
    have hs1 : Srt (P ++ z :: (Q ++ C₂ ++ x :: D)) := by
      have : P ++ z :: (Q ++ C₂ ++ x :: D) = C₁ ++ c :: C₂ ++ x :: D := by rw [e]; simp
      rw [this]; exact hs
    have hs2 : Srt (P ++ z :: (Q ++ C₂ ++ D)) := by
      have hd : (P ++ z :: (Q ++ C₂ ++ D)).Sublist (P ++ z :: (Q ++ C₂ ++ x :: D)) :=
        (List.Sublist.refl P).append (.cons_cons _ ((List.Sublist.refl _).append (.cons _ (.refl _))))
      exact hs1.sublist hd
    have hs3 : Srt (Q ++ C₂ ++ x :: D) := (srt_cons.mp (List.pairwise_append.mp hs1).2.1).2
    have s1 := (KE.bump hz hs1 hp).post (A ++ B)
    have s2 := (KE.down hB hc hx A Q C₂ hA hs3).pre (z :: P ++ [a])
    have s3 := (KE.bump hz hs2 hp).post (A ++ x :: B)
    have e1 : C₁ ++ c :: C₂ ++ x :: D ++ a :: A ++ B = P ++ z :: (Q ++ C₂ ++ x :: D) ++ [a] ++ (A ++ B) := by rw [e]; simp
    have e2 : z :: P ++ a :: (Q ++ C₂ ++ x :: D) ++ (A ++ B) = z :: P ++ [a] ++ (Q ++ C₂ ++ x :: D ++ A ++ B) := by simp
    have e3 : z :: P ++ [a] ++ (Q ++ C₂ ++ D ++ A ++ x :: B) = z :: P ++ a :: (Q ++ C₂ ++ D) ++ (A ++ x :: B) := by simp
    have e4 : P ++ z :: (Q ++ C₂ ++ D) ++ [a] ++ (A ++ x :: B) = C₁ ++ c :: C₂ ++ D ++ a :: A ++ x :: B := by rw [e]; simp
    rw [e1]; refine s1.trans ?_
    rw [e2]; refine s2.trans ?_
    rw [e3, ← e4]; exact s3.symm


/-! the slide -/

noncomputable def slide (low : List (List Nat)) (pre R : List Nat) : List (List Nat) :=
  if ((low.headD []).drop pre.length).headD 57 < 57 ∧ ((low.headD []).drop pre.length).headD 57 ≤ R.headD 57 then
    match low with
    | [] => [pre]
    | l :: low => (pre ++ (l.drop pre.length).headD 57 :: R) :: slide low (l.take pre.length) (l.drop (pre.length + 1))
  else
    match R with
    | [] => pre :: low
    | b :: R => slide low (pre ++ [b]) R
termination_by (low.length, R.length)

theorem slide_down_eq {l : List Nat} {low : List (List Nat)} {pre R : List Nat} (h : (l.drop pre.length).headD 57 < 57 ∧ (l.drop pre.length).headD 57 ≤ R.headD 57) :
    slide (l :: low) pre R = (pre ++ (l.drop pre.length).headD 57 :: R) :: slide low (l.take pre.length) (l.drop (pre.length + 1)) := by
  rw [slide.eq_def]; exact if_pos h
theorem slide_right_eq {low : List (List Nat)} {pre R : List Nat} {b : Nat} (h : ¬ (((low.headD []).drop pre.length).headD 57 < 57 ∧ ((low.headD []).drop pre.length).headD 57 ≤ b)) :
    slide low pre (b :: R) = slide low (pre ++ [b]) R := by
  rw [slide.eq_def]; exact if_neg h
theorem slide_end_eq {low : List (List Nat)} {pre : List Nat} (h : ¬ ((low.headD []).drop pre.length).headD 57 < 57) :
    slide low pre [] = pre :: low := by
  rw [slide.eq_def]; exact if_neg fun x => h x.1

noncomputable abbrev Rw := Nat × List Nat
noncomputable def str (r : Rw) : List Nat := List.replicate r.1 46 ++ r.2
noncomputable def V (r q : Rw) : Prop := q.1 ≤ r.1 ∧ Cov r.2 (q.2.drop (r.1 - q.1))
noncomputable def Chain : List Rw → Prop
  | [] => True
  | [_] => True
  | r :: q :: L => V r q ∧ Chain (q :: L)
noncomputable def OkRow (r : Rw) : Prop := Srt r.2 ∧ ∀ c ∈ r.2, 49 ≤ c ∧ c ≤ 53
noncomputable def read : List Rw → List Nat
  | [] => []
  | r :: L => read L ++ r.2

noncomputable def CovH : List Nat → List Nat → List Nat → Prop
  | [], B, v => Cov B v.tail
  | _ :: _, _, [] => True
  | a :: A, B, y :: v => a < y ∧ CovH A B v
noncomputable def VH (d : Nat) (A B : List Nat) : List Rw → Prop
  | [] => True
  | q :: _ => q.1 ≤ d ∧ CovH A B (q.2.drop (d - q.1))
noncomputable def hole (d : Nat) (A : List Nat) : List Rw → Option Nat
  | [] => none
  | q :: _ => (q.2.drop (d - q.1 + A.length)).head?
/-- no longer, and pointwise no less -/
noncomputable def GeL : List Nat → List Nat → Prop
  | [], _ => True
  | _ :: _, [] => False
  | n :: N, d :: D => d ≤ n ∧ GeL N D

theorem geL_refl : ∀ D, GeL D D
  | [] => trivial
  | _ :: D => ⟨Nat.le_refl _, geL_refl D⟩
theorem geL_drop : ∀ (j : Nat) {N D : List Nat}, GeL N D → GeL (N.drop j) (D.drop j)
  | 0, _, _, h => h
  | _ + 1, [], _, _ => by simp [GeL]
  | _ + 1, _ :: _, [], h => h.elim
  | j + 1, _ :: _, _ :: _, h => by simpa using geL_drop j h.2
theorem cov_geL : ∀ {B D N : List Nat}, Cov B D → GeL N D → Cov B N
  | B, _, [], _, _ => cov_nil B
  | _, [], _ :: _, _, h => h.elim
  | [], _ :: _, _ :: _, h, _ => h.elim
  | _ :: _, _ :: _, _ :: _, h, g => ⟨by have := h.1; have := g.1; omega, cov_geL h.2 g.2⟩
theorem cov_append : ∀ {A C U N : List Nat}, Abv A C → Cov U N → Cov (A ++ U) (C ++ N)
  | [], [], _, _, _, h => h
  | [], _ :: _, _, _, h, _ => h.elim
  | _ :: _, [], _, _, h, _ => h.elim
  | _ :: _, _ :: _, _, _, h, g => ⟨h.1, cov_append h.2 g⟩
theorem abv_len : ∀ {A C : List Nat}, Abv A C → A.length = C.length
  | [], [], _ => rfl
  | [], _ :: _, h => h.elim
  | _ :: _, [], h => h.elim
  | _ :: _, _ :: _, h => by simp [abv_len h.2]
theorem abv_mem : ∀ {A C : List Nat}, Abv A C → ∀ a ∈ A, ∃ c ∈ C, a < c
  | [], [], _, _, h => by cases h
  | [], _ :: _, h, _, _ => h.elim
  | _ :: _, [], h, _, _ => h.elim
  | a :: A, c :: C, h, e, he => by
    rcases List.mem_cons.mp he with rfl | he
    · exact ⟨c, List.mem_cons_self .., h.1⟩
    · obtain ⟨f, hf, hl⟩ := abv_mem h.2 e he
      exact ⟨f, List.mem_cons_of_mem _ hf, hl⟩

theorem covH_some : ∀ {A B v : List Nat} {x : Nat} {D : List Nat}, CovH A B v → v.drop A.length = x :: D →
    ∃ C, v = C ++ x :: D ∧ Abv A C ∧ Cov B D
  | [], B, v, x, D, h, e => by
    simp only [List.length_nil, List.drop_zero] at e
    subst e
    exact ⟨[], rfl, trivial, h⟩
  | _ :: _, _, [], _, _, _, e => by simp at e
  | a :: A, B, y :: v, x, D, h, e => by
    obtain ⟨C, rfl, h1, h2⟩ := covH_some h.2 (by simpa using e)
    exact ⟨y :: C, rfl, ⟨h.1, h1⟩, h2⟩
theorem covH_none : ∀ {A B v : List Nat}, CovH A B v → v.drop A.length = [] → ∀ N, Cov (A ++ N) v
  | [], B, v, h, e, N => by
    simp only [List.length_nil, List.drop_zero] at e
    subst e
    exact cov_nil _
  | _ :: _, _, [], _, _, _ => cov_nil _
  | a :: A, B, y :: v, h, e, N => ⟨h.1, covH_none h.2 (by simpa using e) N⟩
theorem covH_right : ∀ {A B v : List Nat} {b : Nat}, CovH A (b :: B) v → (∀ x, (v.drop A.length).head? = some x → b < x) → CovH (A ++ [b]) B v
  | [], B, [], b, _, _ => trivial
  | [], B, y :: v, b, h, hx => by
    refine ⟨hx y rfl, ?_⟩
    show Cov B v.tail
    cases v with
    | nil => exact cov_nil _
    | cons z v => exact (cov_cons.mp (show Cov (b :: B) (z :: v) from h)).2
  | _ :: _, _, [], _, _, _ => trivial
  | a :: A, B, y :: v, b, h, hx => ⟨h.1, covH_right h.2 (by simpa using hx)⟩
theorem cov_covH : ∀ {C D v : List Nat} {x : Nat}, Cov (C ++ x :: D) v → CovH C D v ∧ ∀ y, (v.drop C.length).head? = some y → x < y
  | [], D, [], x, _ => ⟨cov_nil _, fun y h => by simp at h⟩
  | [], D, y :: v, x, h => ⟨h.2, fun z hz => by simp at hz; subst hz; exact h.1⟩
  | _ :: _, _, [], _, _ => ⟨trivial, fun y h => by simp at h⟩
  | c :: C, D, y :: v, x, h => by
    obtain ⟨h1, h2⟩ := cov_covH (C := C) h.2
    exact ⟨⟨h.1, h1⟩, by simpa using h2⟩

structure Hyp (L : List Rw) (d : Nat) (A B : List Nat) : Prop where
  chain : Chain L
  ok : ∀ r ∈ L, OkRow r
  row : OkRow (d, A ++ B)
  vh : VH d A B L

structure Out (L : List Rw) (d : Nat) (A B N : List Nat) (L' : List Rw) : Prop where
  eq : slide (L.map str) (List.replicate d 46 ++ A) B = str (d, A ++ N) :: L'.map str
  dots : L'.map (·.1) = L.map (·.1)
  chain : Chain ((d, A ++ N) :: L')
  row : OkRow (d, A ++ N)
  ok : ∀ r ∈ L', OkRow r
  ke : KE (read L' ++ (A ++ N)) (read L ++ (A ++ B))
  rel : N = [] ∨ ∃ n N', N = n :: N' ∧ GeL N' B ∧ (B.head? = some n ∨ hole d A L = some n)

theorem str_drop {q : Rw} {d a : Nat} (h : q.1 ≤ d) : (str q).drop (d + a) = q.2.drop (d - q.1 + a) := by
  unfold str
  rw [List.drop_append, List.drop_eq_nil_of_le (by simp; omega), List.length_replicate]
  simp only [List.nil_append]
  congr 1; omega
theorem str_take {q : Rw} {d a : Nat} (h : q.1 ≤ d) : (str q).take (d + a) = List.replicate q.1 46 ++ q.2.take (d - q.1 + a) := by
  unfold str
  rw [List.take_append, List.take_of_length_le (by simp; omega), List.length_replicate]
  congr 2; omega

theorem below_eq {L : List Rw} {d : Nat} {A B : List Nat} (h : VH d A B L) :
    (((L.map str).headD []).drop (List.replicate d 46 ++ A).length).headD 57 = (hole d A L).getD 57 := by
  cases L with
  | nil => simp [hole]
  | cons q L =>
    simp only [List.map_cons, List.headD_cons, List.length_append, List.length_replicate, hole]
    rw [str_drop h.1]
    cases q.2.drop (d - q.1 + A.length) <;> rfl

theorem hole_ok {L : List Rw} {d : Nat} {A : List Nat} {x : Nat} (h : ∀ r ∈ L, OkRow r) (e : hole d A L = some x) : x ≤ 53 := by
  cases L with
  | nil => cases e
  | cons q L =>
    have := (h q (List.mem_cons_self ..)).2 x (by
      have := List.mem_of_mem_head? (l := q.2.drop (d - q.1 + A.length)) (a := x) (by rw [Option.mem_def]; exact e)
      exact List.mem_of_mem_drop this)
    exact this.2

theorem slide_down {q : Rw} {L : List Rw} {d : Nat} {A B : List Nat} {x : Nat} (H : Hyp (q :: L) d A B) (e : hole d A (q :: L) = some x) (hx : x ≤ B.headD 57)
    (ih : ∀ C D, Hyp L q.1 C D → ∃ N L', Out L q.1 C D N L') : ∃ N L', Out (q :: L) d A B N L' := by
  obtain ⟨hqd, hcv⟩ := H.vh
  have hok := H.ok q (List.mem_cons_self ..)
  -- the lower row, parted at the hole
  obtain ⟨D, hD⟩ : ∃ D, q.2.drop (d - q.1 + A.length) = x :: D := by
    have e' : (q.2.drop (d - q.1 + A.length)).head? = some x := e
    cases h : q.2.drop (d - q.1 + A.length) with
    | nil => rw [h] at e'; cases e'
    | cons y D => rw [h] at e'; cases e'; exact ⟨D, rfl⟩
  obtain ⟨C₂, hv, hA, hBD⟩ := covH_some hcv (x := x) (D := D) (by rw [List.drop_drop]; exact hD)
  have hlen := abv_len hA
  have hC₁ : (q.2.take (d - q.1)).length = d - q.1 := by
    rw [List.length_take]
    have : (q.2.drop (d - q.1)).length = (C₂ ++ x :: D).length := by rw [hv]
    simp at this; omega
  have hq : q.2 = q.2.take (d - q.1) ++ C₂ ++ x :: D := by
    rw [List.append_assoc, ← hv, List.take_append_drop]
  generalize hC : q.2.take (d - q.1) = C₁ at *
  have htake : q.2.take (d - q.1 + A.length) = C₁ ++ C₂ := by
    rw [hq, ← hC₁, hlen, ← List.length_append, List.take_left']
    rfl
  have hsq : Srt (C₁ ++ C₂ ++ x :: D) := hq ▸ hok.1
  have hdq : ∀ c ∈ C₁ ++ C₂ ++ x :: D, 49 ≤ c ∧ c ≤ 53 := hq ▸ hok.2
  have hsub : (C₁ ++ C₂ ++ D).Sublist (C₁ ++ C₂ ++ x :: D) := (List.Sublist.refl _).append (.cons _ (.refl _))
  -- the row below that
  have hlow : VH q.1 (C₁ ++ C₂) D L ∧ ∀ y, hole q.1 (C₁ ++ C₂) L = some y → x < y := by
    cases L with
    | nil => exact ⟨trivial, fun y h => by cases h⟩
    | cons p L =>
      have hV : V q p := H.chain.1
      obtain ⟨a, b⟩ := cov_covH (C := C₁ ++ C₂) (D := D) (x := x) (v := p.2.drop (q.1 - p.1)) (by rw [← hq]; exact hV.2)
      exact ⟨⟨hV.1, a⟩, fun y hy => b y (by rw [List.drop_drop]; exact hy)⟩
  have hch : Chain L := by
    cases L with
    | nil => trivial
    | cons p L => exact H.chain.2
  obtain ⟨N, L', O⟩ := ih (C₁ ++ C₂) D ⟨hch, fun r hr => H.ok r (List.mem_cons_of_mem _ hr), ⟨hsq.sublist hsub, fun c hc => hdq c (hsub.mem hc)⟩, hlow.1⟩
  obtain ⟨sA, sB, sAB⟩ := List.pairwise_append.mp H.row.1
  have hxB : ∀ b ∈ B, x ≤ b := by
    intro b hb
    cases B with
    | nil => cases hb
    | cons c B =>
      have : x ≤ c := hx
      rcases List.mem_cons.mp hb with rfl | hb
      · exact this
      · have := (srt_cons.mp sB).1 b hb; omega
  have hx5 : 49 ≤ x ∧ x ≤ 53 := hdq x (by simp)
  have hAx : ∀ a ∈ A, a ≤ x := by
    intro a ha
    obtain ⟨c, hc, hl⟩ := abv_mem hA a ha
    have := (List.pairwise_append.mp hsq).2.2 c (List.mem_append_right _ hc) x (List.mem_cons_self ..)
    omega
  refine ⟨x :: B, (q.1, C₁ ++ C₂ ++ N) :: L', ?_, ?_, ?_, ?_, ?_, ?_, ?_⟩
  · have eb := below_eq (A := A) (B := B) (L := q :: L) ⟨hqd, hcv⟩
    rw [e] at eb
    simp only [List.map_cons, List.headD_cons, Option.getD_some] at eb
    rw [List.map_cons, slide_down_eq (by rw [eb]; exact ⟨by omega, hx⟩), eb]
    simp only [List.length_append, List.length_replicate]
    rw [str_take hqd, htake, show d + A.length + 1 = d + (A.length + 1) by omega, str_drop hqd, ← Nat.add_assoc, ← List.drop_drop, hD]
    simp only [List.drop_succ_cons, List.drop_zero]
    rw [O.eq]
    simp [str]
  · simp [O.dots]
  · refine ⟨⟨hqd, ?_⟩, O.chain⟩
    show Cov (A ++ x :: B) ((C₁ ++ C₂ ++ N).drop (d - q.1))
    rw [List.append_assoc, ← hC₁, List.drop_left]
    refine cov_append hA ?_
    rcases O.rel with rfl | ⟨n, N', rfl, g, hn⟩
    · exact cov_nil _
    · refine ⟨?_, cov_geL hBD g⟩
      rcases hn with hn | hn
      · cases D with
        | nil => cases hn
        | cons d' D =>
          cases hn
          cases B with
          | nil => exact hBD.elim
          | cons b B => have := hBD.1; have := hxB b (List.mem_cons_self ..); omega
      · exact hlow.2 n hn
  · refine ⟨List.pairwise_append.mpr ⟨sA, srt_cons.mpr ⟨hxB, sB⟩, fun a ha b hb => ?_⟩, fun c hc => ?_⟩
    · rcases List.mem_cons.mp hb with rfl | hb
      · exact hAx a ha
      · exact sAB a ha b hb
    · rcases List.mem_append.mp hc with hc | hc
      · exact H.row.2 c (List.mem_append_left _ hc)
      · rcases List.mem_cons.mp hc with rfl | hc
        · exact hx5
        · exact H.row.2 c (List.mem_append_right _ hc)
  · intro r hr
    rcases List.mem_cons.mp hr with rfl | hr
    · exact O.row
    · exact O.ok r hr
  · have k1 := O.ke.post (A ++ x :: B)
    have k2 := (KE.down sB hBD hxB A C₁ C₂ hA hsq).pre (read L)
    have e1 : read ((q.1, C₁ ++ C₂ ++ N) :: L') ++ (A ++ x :: B) = read L' ++ (C₁ ++ C₂ ++ N) ++ (A ++ x :: B) := rfl
    have e2 : read L ++ (C₁ ++ C₂ ++ D) ++ (A ++ x :: B) = read L ++ (C₁ ++ C₂ ++ D ++ A ++ x :: B) := by simp
    have e3 : read (q :: L) ++ (A ++ B) = read L ++ (C₁ ++ C₂ ++ x :: D ++ A ++ B) := by
      show read L ++ q.2 ++ (A ++ B) = _
      rw [hq]; simp
    rw [e1, e3]; refine k1.trans ?_
    rw [e2]; exact k2.symm
  · exact .inr ⟨x, B, rfl, geL_refl B, .inr e⟩

theorem slide_right {L : List Rw} {d : Nat} {A B : List Nat} {b : Nat} (H : Hyp L d A (b :: B)) (hn : ∀ x, hole d A L = some x → b < x)
    (ih : Hyp L d (A ++ [b]) B → ∃ N L', Out L d (A ++ [b]) B N L') : ∃ N L', Out L d A (b :: B) N L' := by
  have hb : b ≤ 53 := (H.row.2 b (by simp)).2
  have ea : A ++ [b] ++ B = A ++ b :: B := by simp
  have hvh : VH d (A ++ [b]) B L := by
    cases L with
    | nil => trivial
    | cons q L =>
      refine ⟨H.vh.1, covH_right H.vh.2 fun x hx => hn x ?_⟩
      rw [List.drop_drop] at hx; exact hx
  obtain ⟨N, L', O⟩ := ih ⟨H.chain, H.ok, ea ▸ H.row, hvh⟩
  have en : A ++ [b] ++ N = A ++ b :: N := by simp
  refine ⟨b :: N, L', ?_, O.dots, en ▸ O.chain, en ▸ O.row, O.ok, ?_, ?_⟩
  · rw [slide_right_eq]
    · have := O.eq
      rw [en, ← List.append_assoc] at this
      exact this
    · rw [below_eq H.vh]
      rintro ⟨h1, h2⟩
      cases e : hole d A L with
      | none => rw [e] at h1; simp at h1
      | some x => rw [e] at h2; have := hn x e; simp at h2; omega
  · have := O.ke
    rw [en, ea] at this
    exact this
  · refine .inr ⟨b, N, rfl, ?_, .inl rfl⟩
    rcases O.rel with rfl | ⟨n, N', rfl, g, hn'⟩
    · trivial
    · refine ⟨?_, g⟩
      rcases hn' with hn' | hn'
      · cases B with
        | nil => cases hn'
        | cons c B =>
          cases hn'
          exact (srt_cons.mp (List.pairwise_append.mp H.row.1).2.1).1 n (List.mem_cons_self ..)
      · -- the sign below the next hole stands under b
        cases L with
        | nil => cases hn'
        | cons q L =>
          have h1 := hvh.2
          have hn2 : (q.2.drop (d - q.1 + (A ++ [b]).length)).head? = some n := hn'
          cases hd : q.2.drop (d - q.1 + (A ++ [b]).length) with
          | nil => rw [hd] at hn2; cases hn2
          | cons y D =>
            rw [hd] at hn2; cases hn2
            have hcv := H.vh.2
            -- CovH A (b :: B) v, and v.drop |A| = z :: n :: D
            cases hz : q.2.drop (d - q.1 + A.length) with
            | nil =>
              have : q.2.drop (d - q.1 + (A ++ [b]).length) = [] := by
                rw [List.length_append, ← Nat.add_assoc, ← List.drop_drop, hz]; rfl
              rw [this] at hd; cases hd
            | cons z D' =>
              obtain ⟨C, -, -, h3⟩ := covH_some hcv (x := z) (D := D') (by rw [List.drop_drop]; exact hz)
              have : D' = n :: D := by
                rw [List.length_append, ← Nat.add_assoc, ← List.drop_drop, hz] at hd
                exact hd
              subst this
              exact Nat.le_of_lt h3.1

theorem slide_end {L : List Rw} {d : Nat} {A : List Nat} (H : Hyp L d A []) (hn : hole d A L = none) : ∃ N L', Out L d A [] N L' := by
  refine ⟨[], L, ?_, rfl, ?_, H.row, H.ok, .refl _, .inl rfl⟩
  · rw [slide_end_eq]
    · simp [str]
    · rw [below_eq H.vh, hn]; simp
  · cases L with
    | nil => trivial
    | cons q L =>
      refine ⟨⟨H.vh.1, ?_⟩, H.chain⟩
      refine covH_none H.vh.2 ?_ []
      rw [List.drop_drop]
      have e : (q.2.drop (d - q.1 + A.length)).head? = none := hn
      exact List.head?_eq_none_iff.mp e

theorem slide_ok : ∀ (L : List Rw) (d : Nat) (A B : List Nat), Hyp L d A B → ∃ N L', Out L d A B N L'
  | L, d, A, [], H => by
    cases e : hole d A L with
    | none => exact slide_end H e
    | some x =>
      cases L with
      | nil => cases e
      | cons q L => exact slide_down H e (by have := hole_ok H.ok e; simp; omega) fun C D h => slide_ok L q.1 C D h
  | L, d, A, b :: B, H => by
    cases e : hole d A L with
    | none => exact slide_right H (fun x hx => by rw [e] at hx; cases hx) fun h => slide_ok L d (A ++ [b]) B h
    | some x =>
      by_cases hx : x ≤ b
      · cases L with
        | nil => cases e
        | cons q L => exact slide_down H e hx fun C D h => slide_ok L q.1 C D h
      · exact slide_right H (fun y hy => by rw [e] at hy; cases hy; omega) fun h => slide_ok L d (A ++ [b]) B h
termination_by L _ _ B => (L.length, B.length)


/-! filling, sending, the straight shape -/

noncomputable def dotsOf (L : List Rw) : Nat := (L.map (·.1)).sum

theorem chain_tail {r : Rw} {L : List Rw} (h : Chain (r :: L)) : Chain L := by
  cases L with
  | nil => trivial
  | cons q L => exact h.2
theorem chain_split : ∀ {L₁ : List Rw} {r : Rw} {L₂ : List Rw}, Chain (L₁ ++ r :: L₂) → Chain (L₁ ++ [r]) ∧ Chain (r :: L₂)
  | [], _, _, h => ⟨trivial, h⟩
  | [_], _, _, h => ⟨⟨h.1, trivial⟩, h.2⟩
  | _ :: b :: L₁, _, _, h => ⟨⟨h.1, (chain_split (L₁ := b :: L₁) h.2).1⟩, (chain_split (L₁ := b :: L₁) h.2).2⟩
theorem chain_join : ∀ {L₁ : List Rw} {r : Rw} {L₂ : List Rw}, Chain (L₁ ++ [r]) → Chain (r :: L₂) → Chain (L₁ ++ r :: L₂)
  | [], _, _, _, h => h
  | [_], _, _, h, g => ⟨h.1, g⟩
  | _ :: b :: L₁, _, _, h, g => ⟨h.1, chain_join (L₁ := b :: L₁) h.2 g⟩
theorem chain_last : ∀ {L₁ : List Rw} {r r' : Rw}, (∀ u, V u r → V u r') → Chain (L₁ ++ [r]) → Chain (L₁ ++ [r'])
  | [], _, _, _, _ => trivial
  | [_], _, _, k, h => ⟨k _ h.1, trivial⟩
  | _ :: b :: L₁, _, _, k, h => ⟨h.1, chain_last (L₁ := b :: L₁) k h.2⟩
theorem read_append : ∀ (L₁ L₂ : List Rw), read (L₁ ++ L₂) = read L₂ ++ read L₁
  | [], _ => by simp [read]
  | r :: L₁, L₂ => by simp [read, read_append L₁ L₂]

/-- one filling: the row `L₁.length` gives up its last dot -/
theorem fill_ok {L₁ L₂ : List Rw} {d : Nat} {w : List Nat} (hch : Chain (L₁ ++ (d + 1, w) :: L₂)) (hok : ∀ r ∈ L₁ ++ (d + 1, w) :: L₂, OkRow r)
    (hc : ∀ q, L₂.head? = some q → q.1 ≤ d) :
    ∃ N L', slide (L₂.map str) (List.replicate d 46) w = str (d, N) :: L'.map str ∧ Chain (L₁ ++ (d, N) :: L') ∧ (∀ r ∈ L₁ ++ (d, N) :: L', OkRow r) ∧
      L'.map (·.1) = L₂.map (·.1) ∧ KE (read (L₁ ++ (d, N) :: L')) (read (L₁ ++ (d + 1, w) :: L₂)) := by
  obtain ⟨c1, c2⟩ := chain_split hch
  have hw := hok (d + 1, w) (by simp)
  have hvh : VH d [] w L₂ := by
    cases L₂ with
    | nil => trivial
    | cons q L₂ =>
      have hq := hc q rfl
      refine ⟨hq, ?_⟩
      have : Cov w (q.2.drop (d + 1 - q.1)) := c2.1.2
      show Cov w (q.2.drop (d - q.1)).tail
      rw [List.tail_drop, show d - q.1 + 1 = d + 1 - q.1 by omega]
      exact this
  obtain ⟨N, L', O⟩ := slide_ok L₂ d [] w ⟨chain_tail c2, fun r hr => hok r (by simp [hr]), ⟨hw.1, hw.2⟩, hvh⟩
  refine ⟨N, L', ?_, ?_, ?_, O.dots, ?_⟩
  · have := O.eq
    simpa using this
  · refine chain_join (chain_last (fun u hu => ?_) c1) O.chain
    have h1 : d + 1 ≤ u.1 := hu.1
    refine ⟨by show d ≤ u.1; omega, ?_⟩
    show Cov u.2 (N.drop (u.1 - d))
    rcases O.rel with rfl | ⟨n, N', rfl, g, -⟩
    · rw [List.drop_nil]; exact cov_nil _
    · rw [show u.1 - d = (u.1 - (d + 1)) + 1 by omega, List.drop_succ_cons]
      exact cov_geL hu.2 (geL_drop _ g)
  · intro r hr
    simp only [List.mem_append, List.mem_cons] at hr
    rcases hr with hr | rfl | hr
    · exact hok r (by simp [hr])
    · exact O.row
    · exact O.ok r hr
  · rw [read_append, read_append]
    exact O.ke.post _

/-- a sending -/
noncomputable def more (r : Rw) : Rw := (if r.1 = 0 then 0 else r.1 + 1, r.2)

theorem cov_shift {U : List Nat} (hs : Srt U) : ∀ {y : Nat} {T : List Nat}, Cov U (y :: T) → Cov U T := by
  induction U with
  | nil => exact fun h => h.elim
  | cons a U ih =>
    intro y T h
    cases T with
    | nil => exact cov_nil _
    | cons z T =>
      obtain ⟨h1, h2⟩ := h
      obtain ⟨s1, s2⟩ := srt_cons.mp hs
      refine ⟨?_, ih s2 h2⟩
      cases U with
      | nil => exact h2.elim
      | cons b U => have := h2.1; have := s1 b (List.mem_cons_self ..); omega
theorem cov_drop {U T : List Nat} (hs : Srt U) (j : Nat) (h : Cov U (T.drop j)) : Cov U (T.drop (j + 1)) := by
  cases e : T.drop j with
  | nil =>
    have : T.drop (j + 1) = [] := by rw [← List.drop_drop, e]; rfl
    rw [this]; exact cov_nil _
  | cons y R =>
    have : T.drop (j + 1) = R := by rw [← List.drop_drop, e]; rfl
    rw [this]; rw [e] at h; exact cov_shift hs h
theorem more_V {r q : Rw} (hr : OkRow r) (h : V r q) : V (more r) (more q) := by
  obtain ⟨d, u⟩ := r
  obtain ⟨e, v⟩ := q
  obtain ⟨h1, h2⟩ := h
  simp only at h1 h2
  unfold more V
  by_cases he : e = 0
  · by_cases hd : d = 0
    · subst he hd; simpa using h2
    · subst he
      simp only [if_neg hd, if_true]
      refine ⟨Nat.zero_le _, ?_⟩
      exact cov_drop hr.1 _ (by simpa using h2)
  · have hd : d ≠ 0 := by omega
    simp only [if_neg hd, if_neg he]
    refine ⟨by omega, ?_⟩
    rw [show d + 1 - (e + 1) = d - e by omega]
    exact h2
theorem more_chain : ∀ {L : List Rw}, (∀ r ∈ L, OkRow r) → Chain L → Chain (L.map more)
  | [], _, _ => trivial
  | [_], _, _ => trivial
  | r :: q :: L, ho, h => ⟨more_V (ho r (List.mem_cons_self ..)) h.1, more_chain (L := q :: L) (fun r hr => ho r (List.mem_cons_of_mem _ hr)) h.2⟩
theorem more_ok {L : List Rw} (h : ∀ r ∈ L, OkRow r) : ∀ r ∈ L.map more, OkRow r := by
  intro r hr
  obtain ⟨q, hq, rfl⟩ := List.mem_map.mp hr
  exact h q hq
theorem more_read : ∀ (L : List Rw), read (L.map more) = read L
  | [] => rfl
  | r :: L => by simp [read, more_read L, more]

/-! the straight shape is its own table -/

noncomputable def ne (T : List (List Nat)) : List (List Nat) := T.filter fun r => !r.isEmpty

theorem rins_at {x y : Nat} {s : List Nat} (hy : x < y) : ∀ {p : List Nat}, (∀ a ∈ p, a ≤ x) → rins (p ++ y :: s) x = (p ++ x :: s, some y)
  | [], _ => by simp [rins, hy]
  | a :: p, h => by
    have := h a (List.mem_cons_self ..)
    rw [List.cons_append, rins_neg _ (by omega), rins_at hy fun b hb => h b (List.mem_cons_of_mem _ hb)]
    rfl
theorem rowW_cov : ∀ (r p s : List Nat), (∀ a ∈ p, ∀ b ∈ r, a ≤ b) → Srt r → Cov r s → rowW (p ++ s) r = (p ++ r, s)
  | [], p, [], _, _, _ => rfl
  | [], _, _ :: _, _, _, h => h.elim
  | x :: r, p, [], hp, hs, _ => by
    obtain ⟨s1, s2⟩ := srt_cons.mp hs
    have e := rins_none (r := p) (x := x) fun a ha => hp a ha x (List.mem_cons_self ..)
    have i := rowW_cov r (p ++ [x]) [] (fun a ha b hb => by
      rcases List.mem_append.mp ha with ha | ha
      · exact hp a ha b (List.mem_cons_of_mem _ hb)
      · simp at ha; subst ha; exact s1 b hb) s2 (cov_nil _)
    simp only [List.append_nil] at i ⊢
    simp [rowW, e, i]
  | x :: r, p, y :: s, hp, hs, h => by
    obtain ⟨s1, s2⟩ := srt_cons.mp hs
    have e := rins_at (s := s) h.1 (p := p) fun a ha => hp a ha x (List.mem_cons_self ..)
    have i := rowW_cov r (p ++ [x]) s (fun a ha b hb => by
      rcases List.mem_append.mp ha with ha | ha
      · exact hp a ha b (List.mem_cons_of_mem _ hb)
      · simp at ha; subst ha; exact s1 b hb) s2 h.2
    have i' : rowW (p ++ x :: s) r = (p ++ x :: r, s) := by simpa using i
    simp [rowW, e, i']

noncomputable def ChainC : List (List Nat) → Prop
  | [] => True
  | [_] => True
  | r :: q :: L => Cov r q ∧ ChainC (q :: L)
theorem insW_row : ∀ (T : List (List Nat)) (r : List Nat), (∀ q ∈ r :: T, Srt q) → ChainC (r :: T) → insW (ne T) r = ne (r :: T)
  | [], [], _, _ => rfl
  | [], x :: r, hs, _ => by
    have h := rowW_cov (x :: r) [] [] (fun a ha => nomatch ha) (hs _ (List.mem_cons_self ..)) (cov_nil _)
    have e : ne [] = [] := rfl
    rw [e, insW_nil_cons]
    simp only [List.nil_append] at h
    rw [h]
    rfl
  | [] :: T, r, hs, h => by
    have e : ne ([] :: T) = ne T := rfl
    have hT : ChainC (r :: T) := by
      cases T with
      | nil => trivial
      | cons t T =>
        have : t = [] := by
          cases t with
          | nil => rfl
          | cons _ _ => exact h.2.1.elim
        subst this
        exact ⟨cov_nil _, h.2.2⟩
    have i := insW_row T r (fun q hq => hs q (by
      rcases List.mem_cons.mp hq with rfl | hq
      · exact List.mem_cons_self ..
      · exact List.mem_cons_of_mem _ (List.mem_cons_of_mem _ hq))) hT
    rw [e, i]
    cases r <;> rfl
  | (y :: s) :: T, r, hs, h => by
    have e : ne ((y :: s) :: T) = (y :: s) :: ne T := rfl
    have i := insW_row T (y :: s) (fun q hq => hs q (List.mem_cons_of_mem _ hq)) h.2
    have j := rowW_cov r [] (y :: s) (fun a ha => nomatch ha) (hs _ (List.mem_cons_self ..)) h.1
    simp only [List.nil_append] at j
    rw [e, insW_cons, j]
    simp only
    rw [i]
    cases r with
    | nil => exact h.1.elim
    | cons _ _ => rfl
theorem insW_read : ∀ (T : List Rw), (∀ r ∈ T, Srt r.2) → ChainC (T.map (·.2)) → insW [] (read T) = ne (T.map (·.2))
  | [], _, _ => rfl
  | r :: T, hs, h => by
    have hT : ChainC (T.map (·.2)) := by
      cases T with
      | nil => trivial
      | cons t T => exact h.2
    show insW [] (read T ++ r.2) = _
    rw [insW_append, insW_read T (fun q hq => hs q (List.mem_cons_of_mem _ hq)) hT]
    refine insW_row (T.map (·.2)) r.2 (fun q hq => ?_) (show ChainC (r.2 :: T.map (·.2)) from h)
    rcases List.mem_cons.mp hq with rfl | hq
    · exact hs r (List.mem_cons_self ..)
    · obtain ⟨p, hp, rfl⟩ := List.mem_map.mp hq
      exact hs p (List.mem_cons_of_mem _ hp)

theorem chainC_of : ∀ {L : List Rw}, Chain L → (∀ r ∈ L, r.1 = 0) → ChainC (L.map (·.2))
  | [], _, _ => trivial
  | [_], _, _ => trivial
  | r :: q :: L, h, h0 => by
    refine ⟨?_, chainC_of (L := q :: L) h.2 fun r hr => h0 r (List.mem_cons_of_mem _ hr)⟩
    have := h.1.2
    rw [h0 r (List.mem_cons_self ..)] at this
    simpa using this

/-! the longest choice that falls all along -/

noncomputable def Dec (m : Nat) (w : List Nat) : Prop := ∃ s : List Nat, s.Sublist w ∧ s.Pairwise (· > ·) ∧ s.length = m

theorem sub3 {a b c : Nat} {s : List Nat} (h : s.Sublist [a, b, c]) : s = [] ∨ s = [a] ∨ s = [b] ∨ s = [c] ∨ s = [a, b] ∨ s = [a, c] ∨ s = [b, c] ∨ s = [a, b, c] := by
  cases h with
  | cons _ h => cases h with
    | cons _ h => cases h with
      | cons _ h => cases h; simp
      | cons_cons _ h => cases h; simp
    | cons_cons _ h => cases h with
      | cons _ h => cases h; simp
      | cons_cons _ h => cases h; simp
  | cons_cons _ h => cases h with
    | cons _ h => cases h with
      | cons _ h => cases h; simp
      | cons_cons _ h => cases h; simp
    | cons_cons _ h => cases h with
      | cons _ h => cases h; simp
      | cons_cons _ h => cases h; simp

/-- what a choice out of u gives up for a choice out of v -/
noncomputable def Swap (u v : List Nat) : Prop := ∀ s : List Nat, s.Sublist u → s.Pairwise (· > ·) → ∃ t : List Nat, t.Sublist v ∧ t.Pairwise (· > ·) ∧ t.length = s.length ∧
  (∀ c, (∀ a ∈ s, c > a) → ∀ a ∈ t, c > a) ∧ ∀ c, (∀ a ∈ s, a > c) → ∀ a ∈ t, a > c
theorem Swap.same {v s : List Nat} (h : s.Sublist v) (hs : s.Pairwise (· > ·)) : ∃ t : List Nat, t.Sublist v ∧ t.Pairwise (· > ·) ∧ t.length = s.length ∧
  (∀ c, (∀ a ∈ s, c > a) → ∀ a ∈ t, c > a) ∧ ∀ c, (∀ a ∈ s, a > c) → ∀ a ∈ t, a > c := ⟨s, h, hs, rfl, fun _ h => h, fun _ h => h⟩

theorem swap1 {x y z : Nat} (a : x < y) (b : y ≤ z) : Swap [y, z, x] [y, x, z] := by
  intro s hs hp
  rcases sub3 hs with rfl | rfl | rfl | rfl | rfl | rfl | rfl | rfl
  · exact Swap.same (by simp) hp
  · exact Swap.same (by simp) hp
  · exact Swap.same (by simp) hp
  · exact Swap.same (by simp) hp
  · simp at hp; omega
  · exact Swap.same (by simp) hp
  · refine ⟨[y, x], by simp, by simp; omega, rfl, fun c h => ?_, fun c h => ?_⟩
    · have := h z (by simp); have := h x (by simp); simp; omega
    · have := h z (by simp); have := h x (by simp); simp; omega
  · simp at hp; omega
theorem swap1' {x y z : Nat} (_ : x < y) (b : y ≤ z) : Swap [y, x, z] [y, z, x] := by
  intro s hs hp
  rcases sub3 hs with rfl | rfl | rfl | rfl | rfl | rfl | rfl | rfl
  · exact Swap.same (by simp) hp
  · exact Swap.same (by simp) hp
  · exact Swap.same (by simp) hp
  · exact Swap.same (by simp) hp
  · exact Swap.same (by simp) hp
  · simp at hp; omega
  · simp at hp; omega
  · simp at hp; omega
theorem swap2 {x y z : Nat} (a : x ≤ y) (b : y < z) : Swap [x, z, y] [z, x, y] := by
  intro s hs hp
  rcases sub3 hs with rfl | rfl | rfl | rfl | rfl | rfl | rfl | rfl
  · exact Swap.same (by simp) hp
  · exact Swap.same (by simp) hp
  · exact Swap.same (by simp) hp
  · exact Swap.same (by simp) hp
  · simp at hp; omega
  · simp at hp; omega
  · exact Swap.same (by simp) hp
  · simp at hp; omega
theorem swap2' {x y z : Nat} (a : x ≤ y) (b : y < z) : Swap [z, x, y] [x, z, y] := by
  intro s hs hp
  rcases sub3 hs with rfl | rfl | rfl | rfl | rfl | rfl | rfl | rfl
  · exact Swap.same (by simp) hp
  · exact Swap.same (by simp) hp
  · exact Swap.same (by simp) hp
  · exact Swap.same (by simp) hp
  · refine ⟨[z, y], by simp, by simp; omega, rfl, fun c h => ?_, fun c h => ?_⟩
    · have := h z (by simp); have := h x (by simp); simp; omega
    · have := h z (by simp); have := h x (by simp); simp; omega
  · exact Swap.same (by simp) hp
  · simp at hp; omega
  · simp at hp; omega

theorem Swap.dec {u v : List Nat} (h : Swap u v) (p q : List Nat) {m : Nat} (hd : Dec m (p ++ (u ++ q))) : Dec m (p ++ (v ++ q)) := by
  obtain ⟨s, hs, hp, hl⟩ := hd
  obtain ⟨s₁, s₂₃, rfl, h1, h23⟩ := List.sublist_append_iff.mp hs
  obtain ⟨s₂, s₃, rfl, h2, h3⟩ := List.sublist_append_iff.mp h23
  obtain ⟨p1, p23, c1⟩ := List.pairwise_append.mp hp
  obtain ⟨p2, p3, c2⟩ := List.pairwise_append.mp p23
  obtain ⟨t, t1, t2, t3, t4, t5⟩ := h s₂ h2 p2
  refine ⟨s₁ ++ (t ++ s₃), h1.append (t1.append h3), List.pairwise_append.mpr ⟨p1, List.pairwise_append.mpr ⟨t2, p3, fun a ha b hb => ?_⟩, fun a ha b hb => ?_⟩, ?_⟩
  · exact t5 b (fun c hc => c2 c hc b hb) a ha
  · rcases List.mem_append.mp hb with hb | hb
    · exact t4 a (fun c hc => c1 a ha c (List.mem_append_left _ hc)) b hb
    · exact c1 a ha b (List.mem_append_right _ hb)
  · simp only [List.length_append] at hl ⊢; omega
theorem K.dec {u v : List Nat} (h : K u v) (p q : List Nat) (m : Nat) : Dec m (p ++ (u ++ q)) ↔ Dec m (p ++ (v ++ q)) := by
  cases h with
  | refl => exact Iff.rfl
  | k1 x y z a b => exact ⟨(swap1 a b).dec p q, (swap1' a b).dec p q⟩
  | k2 x y z a b => exact ⟨(swap2 a b).dec p q, (swap2' a b).dec p q⟩
theorem KE.dec {u v : List Nat} (h : KE u v) (m : Nat) : Dec m u ↔ Dec m v := by
  induction h with
  | refl => exact Iff.rfl
  | symm _ ih => exact ih.symm
  | trans _ _ a b => exact a.trans b
  | «at» p q k => exact k.dec p q m

theorem one_of_row {r s : List Nat} (hr : Srt r) (hs : s.Sublist r) (hp : s.Pairwise (· > ·)) : s.length ≤ 1 := by
  match s, hs, hp with
  | [], _, _ => simp
  | [_], _, _ => simp
  | a :: b :: s, hs, hp =>
    have h1 : Srt (a :: b :: s) := hr.sublist hs
    have := (srt_cons.mp h1).1 b (by simp)
    have := (List.pairwise_cons.mp hp).1 b (by simp)
    omega
theorem dec_le : ∀ (T : List Rw), (∀ r ∈ T, Srt r.2) → ∀ {m : Nat}, Dec m (read T) → m ≤ (ne (T.map (·.2))).length
  | [], _, m, ⟨s, h1, _, h3⟩ => by
    have : s = [] := List.sublist_nil.mp h1
    subst this; simp at h3; omega
  | r :: T, hs, m, ⟨s, h1, h2, h3⟩ => by
    obtain ⟨s₁, s₂, rfl, a, b⟩ := List.sublist_append_iff.mp (show s.Sublist (read T ++ r.2) from h1)
    obtain ⟨p1, p2, -⟩ := List.pairwise_append.mp h2
    have i := dec_le T (fun q hq => hs q (List.mem_cons_of_mem _ hq)) ⟨s₁, a, p1, rfl⟩
    have j := one_of_row (hs r (List.mem_cons_self ..)) b p2
    simp only [List.length_append] at h3
    cases hr : r.2 with
    | nil =>
      rw [hr] at b
      have : s₂ = [] := List.sublist_nil.mp b
      subst this
      simp only [ne, List.map_cons, hr, List.filter_cons] at i ⊢
      simp at h3 ⊢; omega
    | cons x t =>
      simp only [ne, List.map_cons, hr, List.filter_cons] at i ⊢
      simp at h3 ⊢; omega
theorem dec_ge : ∀ (T : List (List Nat)), ChainC T → ∃ s : List Nat, s.Sublist (T.reverse.flatten) ∧ s.Pairwise (· > ·) ∧ s.length = (ne T).length ∧
    ∀ r x, T.head? = some r → r.head? = some x → ∀ a ∈ s, x ≤ a
  | [], _ => ⟨[], by simp, by simp, rfl, fun _ _ _ _ _ h => nomatch h⟩
  | [] :: T, h => by
    have hT : ChainC T := by
      cases T with
      | nil => trivial
      | cons t T => exact h.2
    obtain ⟨s, a, b, c, _⟩ := dec_ge T hT
    refine ⟨s, by simpa using a, b, c, fun r x hr hx => ?_⟩
    simp at hr; subst hr; simp at hx
  | (x :: r) :: T, h => by
    have hT : ChainC T := by
      cases T with
      | nil => trivial
      | cons t T => exact h.2
    obtain ⟨s, a, b, c, d⟩ := dec_ge T hT
    have key : ∀ e ∈ s, x < e := by
      cases T with
      | nil => simp at a; subst a; exact fun _ h => nomatch h
      | cons t T =>
        cases t with
        | nil =>
          -- then nothing stands below
          have : ∀ {T : List (List Nat)}, ChainC ([] :: T) → ne T = [] := by
            intro T
            induction T with
            | nil => exact fun _ => rfl
            | cons t T ih =>
              intro h
              have : t = [] := by
                cases t with
                | nil => rfl
                | cons _ _ => exact h.1.elim
              subst this
              exact ih h.2
          have e := this hT
          have : s = [] := by
            have hl : (ne ([] :: T)).length = 0 := by show (ne T).length = 0; rw [e]; rfl
            exact List.length_eq_zero_iff.mp (c.trans hl)
          subst this; exact fun _ h => nomatch h
        | cons y t =>
          intro e he
          have := d (y :: t) y rfl rfl e he
          have := h.1.1
          omega
    refine ⟨s ++ [x], ?_, ?_, ?_, ?_⟩
    · simp only [List.reverse_cons, List.flatten_append, List.flatten_cons, List.flatten_nil, List.append_nil]
      exact a.append (by simp)
    · exact List.pairwise_append.mpr ⟨b, by simp, fun e he f hf => by simp at hf; subst hf; exact key e he⟩
    · simp [ne] at c ⊢; omega
    · intro r' x' hr hx e he
      simp at hr; subst hr; simp at hx; subst hx
      rcases List.mem_append.mp he with he | he
      · have := key e he; omega
      · simp at he; omega
theorem read_eq : ∀ (T : List Rw), read T = (T.map (·.2)).reverse.flatten
  | [] => rfl
  | r :: T => by simp [read, read_eq T]

/-! the law's own reckoning of it -/

noncomputable def maxl (l : List Nat) : Nat := l.foldl max 0
theorem maxl_le_iff {l : List Nat} {n : Nat} : maxl l ≤ n ↔ ∀ a ∈ l, a ≤ n := by
  have : ∀ (l : List Nat) (k : Nat), l.foldl max k ≤ n ↔ k ≤ n ∧ ∀ a ∈ l, a ≤ n := by
    intro l
    induction l with
    | nil => simp
    | cons b l ih => intro k; simp only [List.foldl_cons, ih, List.mem_cons, forall_eq_or_imp, Nat.max_le, and_assoc]
  simpa [maxl] using this l 0
theorem maxl_mem {l : List Nat} (h : l ≠ []) : maxl l ∈ l := by
  have : ∀ (l : List Nat) (k : Nat), l.foldl max k = k ∨ l.foldl max k ∈ l := by
    intro l
    induction l with
    | nil => simp
    | cons b l ih =>
      intro k
      simp only [List.foldl_cons, List.mem_cons]
      rcases ih (max k b) with h | h
      · rw [h]; omega
      · exact .inr (.inr h)
  cases l with
  | nil => exact absurd rfl h
  | cons b l =>
    have e : maxl (b :: l) = l.foldl max (max 0 b) := rfl
    rw [e]
    rcases this l (max 0 b) with h | h
    · rw [h]; simp
    · exact List.mem_cons_of_mem _ h

noncomputable def fallStep (done : List (Nat × Nat)) (x : Nat) : List (Nat × Nat) := done ++ [(x, 1 + maxl ((done.filter fun p => decide (x < p.1)).map (·.2)))]
noncomputable def falls (w : List Nat) : List (Nat × Nat) := w.foldl fallStep []

structure FallInv (done : List (Nat × Nat)) (w : List Nat) : Prop where
  low : ∀ p ∈ done, ∃ s : List Nat, s.Sublist w ∧ s.Pairwise (· > ·) ∧ s.getLast? = some p.1 ∧ s.length = p.2
  high : ∀ (s : List Nat) (x : Nat), s.Sublist w → s.Pairwise (· > ·) → s.getLast? = some x → ∃ g, (x, g) ∈ done ∧ s.length ≤ g

theorem fall_step {done : List (Nat × Nat)} {w : List Nat} {x : Nat} (I : FallInv done w) : FallInv (fallStep done x) (w ++ [x]) := by
  refine ⟨fun p hp => ?_, fun s y hs hp hl => ?_⟩
  · rcases List.mem_append.mp hp with hp | hp
    · obtain ⟨s, a, b, c⟩ := I.low p hp
      exact ⟨s, a.trans (List.sublist_append_left _ _), b, c⟩
    · simp at hp; subst hp
      by_cases hn : (done.filter fun p => decide (x < p.1)).map (·.2) = []
      · rw [hn]
        exact ⟨[x], List.sublist_append_right _ _, by simp, rfl, rfl⟩
      · obtain ⟨⟨y, g⟩, hy, hg⟩ := List.mem_map.mp (maxl_mem hn)
        obtain ⟨hy, hxy⟩ := List.mem_filter.mp hy
        simp at hxy hg
        obtain ⟨s, a, b, c, d⟩ := I.low _ hy
        refine ⟨s ++ [x], a.append (.refl _), List.pairwise_append.mpr ⟨b, by simp, fun e he f hf => ?_⟩, by simp, by simp [d, ← hg]; omega⟩
        simp at hf; subst hf
        -- every sign of s is no less than its last
        have : ∀ (s : List Nat), s.Pairwise (· > ·) → ∀ z, s.getLast? = some z → ∀ e ∈ s, z ≤ e := by
          intro s hs z hz e he
          obtain ⟨ini, rfl⟩ : ∃ ini, s = ini ++ [z] := by
            have hne : s ≠ [] := by rintro rfl; cases hz
            refine ⟨s.dropLast, ?_⟩
            have := List.dropLast_concat_getLast hne
            rw [List.getLast?_eq_some_getLast hne] at hz
            cases hz; exact this.symm
          rcases List.mem_append.mp he with he | he
          · exact Nat.le_of_lt ((List.pairwise_append.mp hs).2.2 e he z (by simp))
          · simp at he; omega
        have := this s b y c e he
        omega
  · obtain ⟨s₁, s₂, rfl, h1, h2⟩ := List.sublist_append_iff.mp hs
    obtain ⟨p1, p2, c⟩ := List.pairwise_append.mp hp
    cases h2 with
    | cons _ h2 =>
      have : s₂ = [] := List.sublist_nil.mp h2
      subst this
      simp only [List.append_nil] at hl ⊢
      obtain ⟨g, hg, hle⟩ := I.high s₁ y h1 p1 hl
      exact ⟨g, List.mem_append_left _ hg, hle⟩
    | @cons_cons s₂ _ _ h2 =>
      have : s₂ = [] := List.sublist_nil.mp h2
      subst this
      simp at hl; subst hl
      refine ⟨_, List.mem_append_right _ (List.mem_cons_self ..), ?_⟩
      have : s₁.length ≤ maxl ((done.filter fun p => decide (x < p.1)).map (·.2)) := by
        cases e : s₁.getLast? with
        | none =>
          have : s₁ = [] := List.getLast?_eq_none_iff.mp e
          subst this; simp
        | some z =>
          obtain ⟨g, hg, hle⟩ := I.high s₁ z h1 p1 e
          have hz : x < z := c z (List.mem_of_getLast? e) x (by simp)
          have := (maxl_le_iff (l := (done.filter fun p => decide (x < p.1)).map (·.2))).mp (Nat.le_refl _) g
            (List.mem_map.mpr ⟨(z, g), List.mem_filter.mpr ⟨hg, by simpa using hz⟩, rfl⟩)
          omega
      simp; omega
theorem falls_inv (w : List Nat) : FallInv (falls w) w := by
  have key : ∀ (v : List Nat) (done : List (Nat × Nat)) (u : List Nat), FallInv done u → FallInv (v.foldl fallStep done) (u ++ v) := by
    intro v
    induction v with
    | nil => intro done u h; simpa using h
    | cons x v ih =>
      intro done u h
      have := ih _ _ (fall_step (x := x) h)
      simpa using this
  have := key w [] [] ⟨(fun p hp => nomatch hp), fun s x hs _ hl => by
    have : s = [] := List.sublist_nil.mp hs
    subst this; cases hl⟩
  simpa [falls] using this
theorem falls_ne {w : List Nat} (h : w ≠ []) : (falls w).map (·.2) ≠ [] := by
  have : (falls w).length = w.length := by
    have : ∀ (v : List Nat) (done : List (Nat × Nat)), (v.foldl fallStep done).length = done.length + v.length := by
      intro v
      induction v with
      | nil => simp
      | cons x v ih => intro done; rw [List.foldl_cons, ih]; simp [fallStep]; omega
    simpa [falls] using this w []
  intro e
  have : w.length = 0 := by rw [← this, ← List.length_map (f := (·.2)), e]; rfl
  exact h (List.length_eq_zero_iff.mp this)

/-- THE PLAIN LAW: a shape without dots, its word in the class of `w`. -/
theorem plain_law {L : List Rw} {w : List Nat} (hch : Chain L) (hok : ∀ r ∈ L, OkRow r) (h0 : ∀ r ∈ L, r.1 = 0) (hke : KE (read L) w) (hw : w ≠ []) :
    insW [] w = ne (L.map (·.2)) ∧ maxl ((falls w).map (·.2)) = (ne (L.map (·.2))).length := by
  have hs : ∀ r ∈ L, Srt r.2 := fun r hr => (hok r hr).1
  have hC := chainC_of hch h0
  refine ⟨?_, ?_⟩
  · rw [← insW_read L hs hC]
    exact (hke.insW [] fun r hr => nomatch hr).symm
  · have I := falls_inv w
    apply Nat.le_antisymm
    · obtain ⟨⟨x, g⟩, hx, hg⟩ := List.mem_map.mp (maxl_mem (falls_ne hw))
      obtain ⟨s, a, b, c, d⟩ := I.low _ hx
      have hg' : g = maxl ((falls w).map (·.2)) := hg
      rw [← hg']
      exact dec_le L hs ((hke.dec g).mpr ⟨s, a, b, d⟩)
    · obtain ⟨s, a, b, c, -⟩ := dec_ge _ hC
      rw [← read_eq] at a
      obtain ⟨t, t1, t2, t3⟩ := (hke.dec _).mp ⟨s, a, b, c⟩
      rw [← t3]
      cases e : t.getLast? with
      | none =>
        have : t = [] := List.getLast?_eq_none_iff.mp e
        subst this; simp
      | some z =>
        obtain ⟨g, hg, hle⟩ := I.high t z t1 t2 e
        have := (maxl_le_iff (l := (falls w).map (·.2))).mp (Nat.le_refl _) g (List.mem_map.mpr ⟨_, hg, rfl⟩)
        omega
end Mine
namespace Mine
set_option maxRecDepth 100000
open PySem PySem.Sre

noncomputable def code1 : Array Nat := #[14, 4, 0, 1, 1, 6, 1, 16, 46, 1]
noncomputable def code2 : Array Nat := #[14, 9, 4, 1, 2, 16, 10, 16, 13, 0, 7, 7, 16, 13, 16, 10, 15, 18, 5, 16, 10, 15, 13, 11, 16, 13, 5, 5, 0, 16, 10, 1, 15, 2, 0, 1]

theorem runFor_done {m : M} (h : m.outcome.isSome = true) : ∀ n, m.runFor n = m
  | 0 => rfl
  | n + 1 => by unfold M.runFor; rw [if_pos h]
theorem runFor_succ (n : Nat) (m : M) : m.runFor (n + 1) = if m.outcome.isSome then m else m.step.runFor n := rfl
theorem runFor_add (m : M) : ∀ a b, m.runFor (a + b) = (m.runFor a).runFor b
  | 0, b => by rw [Nat.zero_add]; rfl
  | a + 1, b => by
    by_cases h : m.outcome.isSome = true
    · rw [runFor_done h, runFor_done h, runFor_done h]
    · rw [show a + 1 + b = (a + b) + 1 by omega, runFor_succ, runFor_succ, if_neg h, if_neg h]
      exact runFor_add m.step a b

theorem inSet2 (c : Nat) (seen : Seen) : ∃ seen', inSet code2 c 36 5 true seen = .ok (decide (c = 10 ∨ c = 13), seen') := by
  by_cases h1 : c = 10
  · subst h1; exact ⟨_, rfl⟩
  · by_cases h2 : c = 13
    · subst h2; exact ⟨_, rfl⟩
    · refine ⟨((((seen.add 16).add 16).add 0)), ?_⟩
      have e1 : (c == 10) = false := by simpa using h1
      have e2 : (c == 13) = false := by simpa using h2
      rw [show decide (c = 10 ∨ c = 13) = false by simp [h1, h2]]
      show (if (c == 10) = true then _ else if (c == 13) = true then _ else _) = _
      rw [e1, e2]
      rfl


noncomputable def S2 (text : Array Nat) (lim st pc pos handed : Nat) (out : Bool) (frames : List Sre.Frame) (weight : Nat) (answer : Option Bool) (seen : Seen) : M :=
  { code := code2, text, lim, start := st, lastStart := lim, pc, pos, handed, outermost := out, marks := #[], frames, weight, answer, seen }

theorem lit_yes {text : Array Nat} {lim st pos handed : Nat} {out : Bool} {fr : List Sre.Frame} {wt : Nat} {seen : Seen} (hl : pos < lim) (pc c : Nat) (hc : text.getD pos 0 = c) (hpc : (pc < code2.size && code2.getD pc 0 == 16 && code2.getD (pc + 1) 0 == c) = true) :
    ∃ seen', (S2 text lim st pc pos handed out fr wt none seen).step = S2 text lim st (pc + 2) (pos + 1) handed out fr wt none seen' := by
  simp only [Bool.and_eq_true, decide_eq_true_eq, beq_iff_eq] at hpc
  obtain ⟨⟨h1, h2⟩, h3⟩ := hpc
  refine ⟨seen.add 16, ?_⟩
  have hw : (S2 text lim st pc pos handed out fr wt none seen).word 0 = 16 := h2
  unfold M.step
  show (if pc < code2.size then (S2 text lim st pc pos handed out fr wt none seen).exec else _) = _
  rw [if_pos h1]
  unfold M.exec
  rw [hw]
  show (if pos ≥ lim then _ else _) = _
  rw [if_neg (by omega)]
  have hacc : accepts code2 pc (text.getD pos 0) (seen.add 16) = .ok (true, seen.add 16) := by
    unfold accepts; rw [h2, h3, hc]; show Except.ok (c == c, _) = _; simp
  have hwid : itemWidth code2 pc = 2 := by unfold itemWidth; rw [h2]; rfl
  show (match accepts code2 pc (text.getD pos 0) (seen.add 16) with | .error why => _ | .ok (false, seen) => _ | .ok (true, seen) => _) = _
  rw [hacc]
  show ({ S2 text lim st pc pos handed out fr wt none seen with seen := seen.add 16, pc := pc + itemWidth code2 pc, pos := pos + 1 } : M) = _
  rw [hwid]; rfl

theorem lit_no {text : Array Nat} {lim st pos handed : Nat} {out : Bool} {fr : List Sre.Frame} {wt : Nat} {seen : Seen} (pc c : Nat) (hl : lim ≤ pos ∨ text.getD pos 0 ≠ c) (hpc : (pc < code2.size && code2.getD pc 0 == 16 && code2.getD (pc + 1) 0 == c) = true) :
    ∃ seen', (S2 text lim st pc pos handed out fr wt none seen).step = S2 text lim st pc pos handed out fr wt (some false) seen' := by
  simp only [Bool.and_eq_true, decide_eq_true_eq, beq_iff_eq] at hpc
  obtain ⟨⟨h1, h2⟩, h3⟩ := hpc
  refine ⟨seen.add 16, ?_⟩
  have hw : (S2 text lim st pc pos handed out fr wt none seen).word 0 = 16 := h2
  unfold M.step
  show (if pc < code2.size then (S2 text lim st pc pos handed out fr wt none seen).exec else _) = _
  rw [if_pos h1]
  unfold M.exec
  rw [hw]
  show (if pos ≥ lim then _ else _) = _
  by_cases hlt : lim ≤ pos
  · rw [if_pos hlt]; rfl
  · rw [if_neg hlt]
    have hc : text.getD pos 0 ≠ c := hl.resolve_left hlt
    have hacc : accepts code2 pc (text.getD pos 0) (seen.add 16) = .ok (false, seen.add 16) := by
      unfold accepts; rw [h2, h3]; show Except.ok (text.getD pos 0 == c, _) = _; rw [beq_eq_false_iff_ne.mpr hc]
    show (match accepts code2 pc (text.getD pos 0) (seen.add 16) with | .error why => _ | .ok (false, seen) => _ | .ok (true, seen) => _) = _
    rw [hacc]
    rfl
theorem run1 {m m' : M} (h : m.outcome = none) (e : m.step = m') : m.runFor 1 = m' := by
  show (if m.outcome.isSome = true then m else m.step) = m'
  rw [h]; exact e
theorem then_ {m m₁ m₂ : M} {a b : Nat} (e : m.runFor a = m₁) (f : m₁.runFor b = m₂) : m.runFor (a + b) = m₂ := by rw [runFor_add, e, f]

noncomputable def K0 : Sre.Kept := { lastmark := -1, lastindex := -1, whole := false, marks := #[] }
noncomputable def F0 (s : Nat) (first : Bool) (pc : Nat) : Sre.Frame := { wait := .nextStart, pc := pc, pos := s, outermost := first }
noncomputable def F1 (s pc : Nat) (first : Bool) : Sre.Frame := { wait := .nextBranch, pc, pos := s, outermost := first, kept := K0 }

theorem end5 {text : Array Nat} {lim st s p h a pc : Nat} {seen : Seen} (hj : pc = 16 ∨ pc = 21 ∨ pc = 32) :
    ∃ r, (S2 text lim st pc p h true [F1 s a true, F0 s true 10] 2 none seen).runFor 5 = r ∧ r.outcome = some .matched ∧ r.start = st ∧ r.handed = p := by
  have e1 : (S2 text lim st pc p h true [F1 s a true, F0 s true 10] 2 none seen).runFor 1 = S2 text lim st 35 p h true [F1 s a true, F0 s true 10] 2 none (seen.add 15) := by
    rcases hj with rfl | rfl | rfl <;> exact run1 rfl rfl
  have e2 : (S2 text lim st 35 p h true [F1 s a true, F0 s true 10] 2 none (seen.add 15)).runFor 1 = S2 text lim st 35 p p true [F1 s a true, F0 s true 10] 2 (some true) ((seen.add 15).add 1) := run1 rfl rfl
  have e3 : (S2 text lim st 35 p p true [F1 s a true, F0 s true 10] 2 (some true) ((seen.add 15).add 1)).runFor 1 = S2 text lim st a s p true [F0 s true 10] 1 (some true) ((seen.add 15).add 1) := run1 rfl rfl
  have e4 : (S2 text lim st a s p true [F0 s true 10] 1 (some true) ((seen.add 15).add 1)).runFor 1 = S2 text lim st 10 s p true [] 0 (some true) ((seen.add 15).add 1) := run1 rfl rfl
  have e5 : (S2 text lim st 10 s p true [] 0 (some true) ((seen.add 15).add 1)).runFor 1 = { S2 text lim st 10 s p true [] 0 (some true) ((seen.add 15).add 1) with outcome := some .matched } := run1 rfl rfl
  exact ⟨_, then_ (a := 1) (b := 4) e1 (then_ (a := 1) (b := 3) e2 (then_ (a := 1) (b := 2) e3 (then_ (a := 1) (b := 1) e4 e5))), rfl, rfl, rfl⟩
theorem ok13_10 {text : Array Nat} {lim s : Nat} {seen : Seen} (h1 : text.getD s 0 = 13) (h2 : text.getD (s + 1) 0 = 10) (hl : s + 1 < lim) :
    ∃ r, (S2 text lim s 10 s s true [F0 s true 10] 1 none seen).runFor 8 = r ∧ r.outcome = some .matched ∧ r.start = s ∧ r.handed = s + 2 := by
  have e1 : (S2 text lim s 10 s s true [F0 s true 10] 1 none seen).runFor 1 = S2 text lim s 12 s s true [F1 s 11 true, F0 s true 10] 2 none (seen.add 7) := run1 rfl rfl
  obtain ⟨s2, e2⟩ := lit_yes (text := text) (lim := lim) (st := s) (pos := s) (handed := s) (out := true) (fr := [F1 s 11 true, F0 s true 10]) (wt := 2) (seen := seen.add 7) (by omega) 12 13 h1 (by decide)
  obtain ⟨s3, e3⟩ := lit_yes (text := text) (lim := lim) (st := s) (pos := s + 1) (handed := s) (out := true) (fr := [F1 s 11 true, F0 s true 10]) (wt := 2) (seen := s2) hl 14 10 h2 (by decide)
  obtain ⟨r, er, hr⟩ := end5 (text := text) (lim := lim) (st := s) (s := s) (p := s + 1 + 1) (h := s) (a := 11) (seen := s3) (.inl rfl)
  exact ⟨r, then_ (a := 1) (b := 7) e1 (then_ (a := 1) (b := 6) (run1 rfl e2) (then_ (a := 1) (b := 5) (run1 rfl e3) er)), hr⟩

theorem ok10 {text : Array Nat} {lim s : Nat} {seen : Seen} (h1 : text.getD s 0 = 10) (hl : s < lim) :
    ∃ r, (S2 text lim s 10 s s true [F0 s true 10] 1 none seen).runFor 9 = r ∧ r.outcome = some .matched ∧ r.start = s ∧ r.handed = s + 1 := by
  have e1 : (S2 text lim s 10 s s true [F0 s true 10] 1 none seen).runFor 1 = S2 text lim s 12 s s true [F1 s 11 true, F0 s true 10] 2 none (seen.add 7) := run1 rfl rfl
  obtain ⟨s2, e2⟩ := lit_no (text := text) (lim := lim) (st := s) (pos := s) (handed := s) (out := true) (fr := [F1 s 11 true, F0 s true 10]) (wt := 2) (seen := seen.add 7) 12 13 (.inr (by omega)) (by decide)
  have e3 : (S2 text lim s 12 s s true [F1 s 11 true, F0 s true 10] 2 (some false) s2).runFor 1 = S2 text lim s 19 s s true [F1 s 18 true, F0 s true 10] 2 none s2 := run1 rfl rfl
  obtain ⟨s4, e4⟩ := lit_yes (text := text) (lim := lim) (st := s) (pos := s) (handed := s) (out := true) (fr := [F1 s 18 true, F0 s true 10]) (wt := 2) (seen := s2) hl 19 10 h1 (by decide)
  obtain ⟨r, er, hr⟩ := end5 (text := text) (lim := lim) (st := s) (s := s) (p := s + 1) (h := s) (a := 18) (seen := s4) (.inr (.inl rfl))
  exact ⟨r, then_ (a := 1) (b := 8) e1 (then_ (a := 1) (b := 7) (run1 rfl e2) (then_ (a := 1) (b := 6) e3 (then_ (a := 1) (b := 5) (run1 rfl e4) er))), hr⟩

theorem ok13 {text : Array Nat} {lim s : Nat} {seen : Seen} (h1 : text.getD s 0 = 13) (hl : s < lim) (h2 : lim ≤ s + 1 ∨ text.getD (s + 1) 0 ≠ 10) :
    ∃ r, (S2 text lim s 10 s s true [F0 s true 10] 1 none seen).runFor 15 = r ∧ r.outcome = some .matched ∧ r.start = s ∧ r.handed = s + 1 := by
  have e1 : (S2 text lim s 10 s s true [F0 s true 10] 1 none seen).runFor 1 = S2 text lim s 12 s s true [F1 s 11 true, F0 s true 10] 2 none (seen.add 7) := run1 rfl rfl
  obtain ⟨s2, e2⟩ := lit_yes (text := text) (lim := lim) (st := s) (pos := s) (handed := s) (out := true) (fr := [F1 s 11 true, F0 s true 10]) (wt := 2) (seen := seen.add 7) hl 12 13 h1 (by decide)
  obtain ⟨s3, e3⟩ := lit_no (text := text) (lim := lim) (st := s) (pos := s + 1) (handed := s) (out := true) (fr := [F1 s 11 true, F0 s true 10]) (wt := 2) (seen := s2) 14 10 h2 (by decide)
  have e4 : (S2 text lim s 14 (s + 1) s true [F1 s 11 true, F0 s true 10] 2 (some false) s3).runFor 1 = S2 text lim s 19 s s true [F1 s 18 true, F0 s true 10] 2 none s3 := run1 rfl rfl
  obtain ⟨s5, e5⟩ := lit_no (text := text) (lim := lim) (st := s) (pos := s) (handed := s) (out := true) (fr := [F1 s 18 true, F0 s true 10]) (wt := 2) (seen := s3) 19 10 (.inr (by omega)) (by decide)
  have e6 : (S2 text lim s 19 s s true [F1 s 18 true, F0 s true 10] 2 (some false) s5).runFor 1 = S2 text lim s 24 s s true [F1 s 23 true, F0 s true 10] 2 none s5 := run1 rfl rfl
  obtain ⟨s7, e7⟩ := lit_yes (text := text) (lim := lim) (st := s) (pos := s) (handed := s) (out := true) (fr := [F1 s 23 true, F0 s true 10]) (wt := 2) (seen := s5) hl 24 13 h1 (by decide)
  let F2 : Sre.Frame := { wait := .lookNot, pc := 26, pos := s + 1, outermost := true, kept := K0 }
  have e8 : (S2 text lim s 26 (s + 1) s true [F1 s 23 true, F0 s true 10] 2 none s7).runFor 1 = S2 text lim s 29 (s + 1) (s + 1) false [F2, F1 s 23 true, F0 s true 10] 3 none (s7.add 5) := run1 rfl rfl
  obtain ⟨s9, e9⟩ := lit_no (text := text) (lim := lim) (st := s) (pos := s + 1) (handed := s + 1) (out := false) (fr := [F2, F1 s 23 true, F0 s true 10]) (wt := 3) (seen := s7.add 5) 29 10 h2 (by decide)
  have e10 : (S2 text lim s 29 (s + 1) (s + 1) false [F2, F1 s 23 true, F0 s true 10] 3 (some false) s9).runFor 1 = S2 text lim s 32 (s + 1) (s + 1) true [F1 s 23 true, F0 s true 10] 2 none s9 := run1 rfl rfl
  obtain ⟨r, er, hr⟩ := end5 (text := text) (lim := lim) (st := s) (s := s) (p := s + 1) (h := s + 1) (a := 23) (seen := s9) (.inr (.inr rfl))
  exact ⟨r, then_ (a := 1) (b := 14) e1 (then_ (a := 1) (b := 13) (run1 rfl e2) (then_ (a := 1) (b := 12) (run1 rfl e3) (then_ (a := 1) (b := 11) e4 (then_ (a := 1) (b := 10) (run1 rfl e5)
    (then_ (a := 1) (b := 9) e6 (then_ (a := 1) (b := 8) (run1 rfl e7) (then_ (a := 1) (b := 7) e8 (then_ (a := 1) (b := 6) (run1 rfl e9) (then_ (a := 1) (b := 5) e10 er))))))))), hr⟩

/-- a machine that ends within n steps, with or without a find -/
noncomputable def Fnd (m : M) (n : Nat) (r : Option (Nat × Nat)) : Prop := ∃ k m', k ≤ n ∧ m.runFor k = m' ∧ match r with
  | some (s, e) => m'.outcome = some .matched ∧ m'.start = s ∧ m'.handed = e
  | none => m'.outcome = some .failed

theorem admitted2 {m : M} (hm : m.code = code2) : ∀ (n s fuel : Nat) (seen : Seen), n + 1 ≤ fuel → s + n ≤ m.lim → (∀ i, i < n → m.text.getD (s + i) 0 ≠ 10 ∧ m.text.getD (s + i) 0 ≠ 13) →
    (s + n = m.lim ∨ m.text.getD (s + n) 0 = 10 ∨ m.text.getD (s + n) 0 = 13) → ∃ seen', M.admitted m fuel s seen = .ok (if s + n = m.lim then none else some (s + n), seen')
  | 0, s, fuel + 1, seen, _, hl, _, he => by
    unfold M.admitted
    by_cases h : s + 0 = m.lim
    · rw [if_pos h, if_pos (by omega)]; exact ⟨_, rfl⟩
    · rw [if_neg h, if_neg (by omega)]
      obtain ⟨seen', e⟩ := inSet2 (m.text.getD s 0) seen
      have hc : decide (m.text.getD s 0 = 10 ∨ m.text.getD s 0 = 13) = true := by simpa using he.resolve_left h
      rw [hc] at e
      refine ⟨seen', ?_⟩
      rw [hm, show code2.size = 36 from rfl, e]
      rfl
  | n + 1, s, fuel + 1, seen, hf, hl, hn, he => by
    unfold M.admitted
    rw [if_neg (by omega)]
    obtain ⟨seen', e⟩ := inSet2 (m.text.getD s 0) seen
    have h0 := hn 0 (by omega)
    have hc : decide (m.text.getD s 0 = 10 ∨ m.text.getD s 0 = 13) = false := by
      rw [Nat.add_zero] at h0
      exact decide_eq_false fun h => h.elim h0.1 h0.2
    rw [hc] at e
    obtain ⟨seen'', e'⟩ := admitted2 hm n (s + 1) fuel seen' (by omega) (by omega) (fun i hi => by have := hn (i + 1) (by omega); rwa [show s + (i + 1) = s + 1 + i by omega] at this) (by rwa [show s + 1 + n = s + (n + 1) by omega])
    refine ⟨seen'', ?_⟩
    rw [hm, show code2.size = 36 from rfl, e]
    rw [show s + 1 + n = s + (n + 1) by omega] at e'
    exact e'

noncomputable def att (m : M) (x : Except String (Option Nat × Seen)) : M := match x with
  | .ok (some s, seen) => { m with mustAdvance := false, seen }.attemptAt s true
  | .ok (none, seen) => { m with seen }.say false
  | .error why => m.stick why
theorem search2 {text : Array Nat} {st n : Nat} (hl : st + n ≤ text.size) (hn : ∀ i, i < n → text.getD (st + i) 0 ≠ 10 ∧ text.getD (st + i) 0 ≠ 13) (he : st + n = text.size ∨ text.getD (st + n) 0 = 10 ∨ text.getD (st + n) 0 = 13) :
    Fnd (forSearch code2 text 0 st text.size false) 15 (if st + n = text.size then none else some (st + n, if text.getD (st + n) 0 = 13 ∧ st + n + 1 < text.size ∧ text.getD (st + n + 1) 0 = 10 then st + n + 2 else st + n + 1)) := by
  unfold forSearch
  show Fnd (if (decide (st > text.size) || decide (text.size - st < 1)) = true then _ else _) _ _
  by_cases h0 : st = text.size
  · have hn0 : n = 0 := by omega
    subst hn0
    rw [if_pos (by simp; omega), if_pos (by omega)]
    exact ⟨1, _, by omega, rfl, rfl⟩
  · rw [if_neg (by simp; omega)]
    obtain ⟨seen', e⟩ := admitted2 (m := { code := code2, text, lim := text.size, start := st, lastStart := text.size, pc := 10, pos := st, handed := st, marks := #[], mustAdvance := false, seen := ({} : Seen).add 14 }) rfl n st (text.size + 1 - st) (({} : Seen).add 14) (by omega) hl hn he
    show Fnd (att { code := code2, text, lim := text.size, start := st, lastStart := text.size, pc := 10, pos := st, handed := st, marks := #[], mustAdvance := false, seen := ({} : Seen).add 14 } (M.admitted { code := code2, text, lim := text.size, start := st, lastStart := text.size, pc := 10, pos := st, handed := st, marks := #[], mustAdvance := false, seen := ({} : Seen).add 14 } (text.size + 1 - st) st (({} : Seen).add 14))) _ _
    rw [e]
    by_cases hN : st + n = text.size
    · rw [if_pos hN, if_pos hN]
      exact ⟨1, _, by omega, rfl, rfl⟩
    · rw [if_neg hN, if_neg hN]
      have hlt : st + n < text.size := by omega
      show Fnd (S2 text text.size (st + n) 10 (st + n) (st + n) true [F0 (st + n) true 10] 1 none seen') _ _
      by_cases h13 : text.getD (st + n) 0 = 13
      · by_cases h2 : st + n + 1 < text.size ∧ text.getD (st + n + 1) 0 = 10
        · rw [if_pos ⟨h13, h2⟩]
          obtain ⟨r, er, hr⟩ := ok13_10 (seen := seen') h13 h2.2 h2.1
          exact ⟨8, r, by omega, er, hr⟩
        · rw [if_neg fun h => h2 h.2]
          obtain ⟨r, er, hr⟩ := ok13 (seen := seen') h13 hlt (by rcases Nat.lt_or_ge (st + n + 1) text.size with h | h; exact .inr fun e => h2 ⟨h, e⟩; exact .inl h)
          exact ⟨15, r, by omega, er, hr⟩
      · rw [if_neg fun h => h13 h.1]
        obtain ⟨r, er, hr⟩ := ok10 (seen := seen') ((he.resolve_left hN).resolve_right h13) hlt
        exact ⟨9, r, by omega, er, hr⟩

/-! the second pattern -/
noncomputable def S1 (text : Array Nat) (lim st pc pos handed : Nat) (out : Bool) (frames : List Sre.Frame) (weight : Nat) (answer : Option Bool) (seen : Seen) : M :=
  { code := code1, text, lim, start := st, lastStart := lim, pc, pos, handed, outermost := out, marks := #[], frames, weight, answer, seen }
noncomputable def A1 (text : Array Nat) (lim s : Nat) (first : Bool) (seen : Seen) : M := S1 text lim s 5 s s first [F0 s first 5] 1 none seen
noncomputable def bol (text : Array Nat) (s : Nat) : Bool := s == 0 || text.getD (s - 1) 0 == 10
theorem at_yes {text : Array Nat} {lim s : Nat} {first : Bool} {seen : Seen} (h : bol text s = true) : (A1 text lim s first seen).runFor 1 = S1 text lim s 7 s s first [F0 s first 5] 1 none ((seen.add 6).add 44) := by
  refine run1 rfl ?_
  show (if bol text s = true then _ else _) = _
  rw [if_pos h]; rfl
theorem at_no {text : Array Nat} {lim s : Nat} {first : Bool} {seen : Seen} (h : bol text s = false) : (A1 text lim s first seen).runFor 1 = S1 text lim s 5 s s first [F0 s first 5] 1 (some false) ((seen.add 6).add 44) := by
  refine run1 rfl ?_
  show (if bol text s = true then _ else _) = _
  rw [if_neg (by simp [h])]; rfl
theorem dot_step {text : Array Nat} {lim s : Nat} {first : Bool} {seen : Seen} : (S1 text lim s 7 s s first [F0 s first 5] 1 none seen).runFor 1 =
    if s < lim ∧ text.getD s 0 = 46 then S1 text lim s 9 (s + 1) s first [F0 s first 5] 1 none (seen.add 16) else S1 text lim s 7 s s first [F0 s first 5] 1 (some false) (seen.add 16) := by
  refine run1 rfl ?_
  show (if s ≥ lim then _ else _) = _
  by_cases hlt : s ≥ lim
  · rw [if_pos hlt, if_neg (by omega)]; rfl
  · rw [if_neg hlt]
    have hacc : accepts code1 7 (text.getD s 0) (seen.add 16) = .ok (text.getD s 0 == 46, seen.add 16) := rfl
    show (match accepts code1 7 (text.getD s 0) (seen.add 16) with | .error why => _ | .ok (false, seen) => _ | .ok (true, seen) => _) = _
    rw [hacc]
    by_cases hc : text.getD s 0 = 46
    · rw [if_pos ⟨by omega, hc⟩, show (text.getD s 0 == 46) = true by simpa using hc]; rfl
    · rw [if_neg fun h => hc h.2, show (text.getD s 0 == 46) = false by simpa using hc]; rfl
theorem next_start {text : Array Nat} {lim s pc : Nat} {first : Bool} {seen : Seen} (h : s < lim) : (S1 text lim s pc s s first [F0 s first 5] 1 (some false) seen).runFor 1 = A1 text lim (s + 1) false seen := by
  refine run1 rfl ?_
  show (if s < lim then _ else _) = _
  rw [if_pos h]; rfl
theorem no_start {text : Array Nat} {lim s pc : Nat} {first : Bool} {seen : Seen} (h : ¬ s < lim) : ∃ m', (S1 text lim s pc s s first [F0 s first 5] 1 (some false) seen).runFor 2 = m' ∧ m'.outcome = some .failed := by
  have e1 : (S1 text lim s pc s s first [F0 s first 5] 1 (some false) seen).runFor 1 = S1 text lim s 5 s s first [] 0 (some false) seen := by
    refine run1 rfl ?_
    show (if s < lim then _ else _) = _
    rw [if_neg h]; rfl
  exact ⟨_, then_ (a := 1) (b := 1) e1 (run1 rfl rfl), rfl⟩
theorem hit_end {text : Array Nat} {lim s : Nat} {first : Bool} {seen : Seen} : ∃ m', (S1 text lim s 9 (s + 1) s first [F0 s first 5] 1 none seen).runFor 3 = m' ∧ m'.outcome = some .matched ∧ m'.start = s ∧ m'.handed = s + 1 := by
  have e1 : (S1 text lim s 9 (s + 1) s first [F0 s first 5] 1 none seen).runFor 1 = S1 text lim s 9 (s + 1) (s + 1) first [F0 s first 5] 1 (some true) (seen.add 1) := by
    refine run1 rfl ?_
    cases first <;> rfl
  have e2 : (S1 text lim s 9 (s + 1) (s + 1) first [F0 s first 5] 1 (some true) (seen.add 1)).runFor 1 = S1 text lim s 5 s (s + 1) first [] 0 (some true) (seen.add 1) := run1 rfl rfl
  exact ⟨_, then_ (a := 1) (b := 2) e1 (then_ (a := 1) (b := 1) e2 (run1 rfl rfl)), rfl, rfl, rfl⟩

theorem search1A {text : Array Nat} {lim : Nat} : ∀ (n s : Nat) (first : Bool) (seen : Seen), s + n ≤ lim → (∀ i, i < n → ¬ (bol text (s + i) = true ∧ text.getD (s + i) 0 = 46)) → (s + n = lim ∨ (bol text (s + n) = true ∧ text.getD (s + n) 0 = 46)) →
    Fnd (A1 text lim s first seen) (3 * n + 5) (if s + n = lim then none else some (s + n, s + n + 1))
  | n, s, first, seen, hl, hn, he => by
    by_cases hhit : s < lim ∧ bol text s = true ∧ text.getD s 0 = 46
    · have hn0 : n = 0 := by
        cases n with
        | zero => rfl
        | succ n => exact absurd hhit.2 (hn 0 (by omega))
      subst hn0
      rw [if_neg (by omega)]
      have e1 := at_yes (lim := lim) (first := first) (seen := seen) hhit.2.1
      have e2 := dot_step (text := text) (lim := lim) (s := s) (first := first) (seen := (seen.add 6).add 44)
      rw [if_pos ⟨hhit.1, hhit.2.2⟩] at e2
      obtain ⟨m', e3, r⟩ := hit_end (text := text) (lim := lim) (s := s) (first := first) (seen := ((seen.add 6).add 44).add 16)
      exact ⟨5, m', by omega, then_ (a := 1) (b := 4) e1 (then_ (a := 1) (b := 3) e2 e3), r⟩
    · -- no hit here: at most two steps to the answer no
      have hno : ∃ k pc seen', k ≤ 2 ∧ (A1 text lim s first seen).runFor k = S1 text lim s pc s s first [F0 s first 5] 1 (some false) seen' := by
        cases hb : bol text s with
        | false => exact ⟨1, 5, _, by omega, at_no hb⟩
        | true =>
          have e2 := dot_step (text := text) (lim := lim) (s := s) (first := first) (seen := (seen.add 6).add 44)
          rw [if_neg fun h => hhit ⟨h.1, hb, h.2⟩] at e2
          exact ⟨2, 7, _, by omega, then_ (a := 1) (b := 1) (at_yes hb) e2⟩
      obtain ⟨k, pc, seen', hk, ek⟩ := hno
      by_cases hs : s < lim
      · cases n with
        | zero => exact absurd (he.resolve_left (by omega)) fun h => hhit ⟨hs, h⟩
        | succ n =>
          obtain ⟨j, m', hj, ej, r⟩ := search1A (text := text) (lim := lim) n (s + 1) false seen' (by omega) (fun i hi => by have := hn (i + 1) (by omega); rwa [show s + (i + 1) = s + 1 + i by omega] at this) (by rwa [show s + 1 + n = s + (n + 1) by omega])
          rw [show s + 1 + n = s + (n + 1) by omega] at r
          exact ⟨k + (1 + j), m', by omega, then_ ek (then_ (next_start hs) ej), r⟩
      · have : s + n = lim := by omega
        rw [if_pos this]
        obtain ⟨m', e', r⟩ := no_start (text := text) (lim := lim) (s := s) (pc := pc) (first := first) (seen := seen') hs
        exact ⟨k + 2, m', by omega, then_ ek e', r⟩

theorem search1 {text : Array Nat} {st n : Nat} (hl : st + n ≤ text.size) (hn : ∀ i, i < n → ¬ (bol text (st + i) = true ∧ text.getD (st + i) 0 = 46)) (he : st + n = text.size ∨ (bol text (st + n) = true ∧ text.getD (st + n) 0 = 46)) :
    Fnd (forSearch code1 text 0 st text.size false) (3 * n + 5) (if st + n = text.size then none else some (st + n, st + n + 1)) := by
  unfold forSearch
  show Fnd (if (decide (st > text.size) || decide (text.size - st < 1)) = true then _ else _) _ _
  by_cases h0 : st = text.size
  · have hn0 : n = 0 := by omega
    subst hn0
    rw [if_pos (by simp; omega), if_pos (by omega)]
    exact ⟨1, _, by omega, rfl, rfl⟩
  · rw [if_neg (by simp; omega)]
    exact search1A n st true (({} : Seen).add 14) hl hn he
end Mine
namespace Mine
set_option maxRecDepth 100000
set_option maxHeartbeats 0
open PySem PySem.W PyProof.Rows
/-! The head: the law's top is run once by the kernel, through the library's twins; what I need of its heap is written out in `KX`. -/
noncomputable abbrev pw : Program := PySem.Challenge.pw_xl0004_01
noncomputable def vw : Program := { PySem.Challenge.pw_xl0004_01 with main := { PySem.Challenge.pw_xl0004_01.main with body := [0,1,3,4,5,6,8,9,11,12,13,14,16,17,18,19,20,21,22,23,24].filterMap fun i => PySem.Challenge.pw_xl0004_01.main.body[i]? } }
noncomputable def loose : List Str := ["_twin_re_1", "_twin_re_2", "_Accumulator"]

noncomputable def st (i : Nat) : Stmt := (PySem.Challenge.pw_xl0004_01.main.body[i]?).getD (.Pass default)
noncomputable def fA : Stmt → Arguments
  | .FunctionDef _ a _ _ _ _ _ _ _ _ => a
  | _ => default
noncomputable def fB : Stmt → List Stmt
  | .FunctionDef _ _ b _ _ _ _ _ _ _ => b
  | .ClassDef _ _ _ b _ _ _ _ _ _ _ => b
  | _ => []
noncomputable def fS : Stmt → Scope
  | .FunctionDef _ _ _ _ _ _ s _ _ _ => s
  | _ => default
noncomputable def mt (j : Nat) : Stmt := ((fB (st 9))[j]?).getD (.Pass default)
noncomputable def fo (s : Stmt) (nm qual : Str) (clo : List (Str × Addr)) (df pm cd ct : Value) : Obj :=
  ⟨.type "function", none, .func { name := nm, qualname := qual, params := fA s, body := .stmts (fB s), scope := fS s, globals := mainGlobals, closure := clo, defaults := df, kwdefaults := .none, doc := .none, pyModule := pm, annotations := none, code := cd, closureTuple := ct, builtins := builtinsNs }, #[]⟩
noncomputable def en (P : Params) (x : Str) (t : Nat) (v : Value) : DictEntry := ⟨PyData.keyHash P x, .str x t, v⟩
noncomputable def KX (P : Params) : Frag := [
  (3, ⟨(.type "dict"), none, (.dict #[en P "__name__" 165 (.str "law_xl0004_01" 523), en P "__doc__" 166 .none, en P "__package__" 167 .none, en P "__loader__" 168 (.builtin "__main__.__loader__#opaque"), en P "__spec__" 169 .none, en P "__annotations__" 170 (.ref 6), en P "__builtins__" 171 (.ref 4), en P "__file__" 173 (.str "/claim/cut.py" 172), en P "__cached__" 174 .none, en P "_sre" 275 (.ref 12), en P "_wall" 288 (.ref 38), en P "_twin_re_1" 306 (.ref 43), en P "_twin_re_2" 348 (.ref 48), en P "CRLF" 350 (.str "\r\n" 349), en P "quotedata" 357 (.ref 55), en P "EMPTYSTRING" 361 (.str "" 360), en P "_Accumulator" 455 (.ref 133), en P "Error" 477 (.ref 147), en P "error_reply" 493 (.ref 160), en P "error_proto" 509 (.ref 172), en P "parse229" 522 (.ref 181), en P "_law_number" 533 (.ref 188), en P "_law_word" 541 (.ref 195), en P "_law_fits" 547 (.ref 200), en P "_law_sent" 553 (.ref 205), en P "_law_ready" 559 (.ref 210), en P "_law_filled" 565 (.ref 215), en P "_law_piles" 571 (.ref 220), en P "_law_port" 578 (.ref 227), en P "law" 584 (.ref 232)] 30), #[]⟩),
  (42, ⟨(.type "tuple"), none, (.seq #[(.int 14 0), (.int 4 0), (.int 0 0), (.int 1 0), (.int 1 0), (.int 6 0), (.int 1 0), (.int 16 0), (.int 46 0), (.int 1 0)] 0), #[]⟩),
  (43, ⟨(.type "re.Pattern"), none, (.fields #[(.str "(?m)^\\." 292), (.int 40 305), (.int 0 0), .none, .none, (.ref 42), (.int 0 0)]), #[]⟩),
  (47, ⟨(.type "tuple"), none, (.seq #[(.int 14 0), (.int 9 0), (.int 4 0), (.int 1 0), (.int 2 0), (.int 16 0), (.int 10 0), (.int 16 0), (.int 13 0), (.int 0 0), (.int 7 0), (.int 7 0), (.int 16 0), (.int 13 0), (.int 16 0), (.int 10 0), (.int 15 0), (.int 18 0), (.int 5 0), (.int 16 0), (.int 10 0), (.int 15 0), (.int 13 0), (.int 11 0), (.int 16 0), (.int 13 0), (.int 5 0), (.int 5 0), (.int 0 0), (.int 16 0), (.int 10 0), (.int 1 0), (.int 15 0), (.int 2 0), (.int 0 0), (.int 1 0)] 0), #[]⟩),
  (48, ⟨(.type "re.Pattern"), none, (.fields #[(.str "(?:\\r\\n|\\n|\\r(?!\\n))" 308), (.int 32 347), (.int 0 0), .none, .none, (.ref 47), (.int 0 0)]), #[]⟩),
  (54, ⟨(.type "code"), none, (.fields #[(.str "quotedata" 351), (.str "quotedata" 352), (.str "/claim/cut.py" 353), (.int 9 0), (.int 1 0), (.int 0 0), (.int 0 0), (.int 3 0), (.ref 49), (.bool true), (.int 276 0), (.ref 50), .none, (.ref 51), (.ref 52), (.ref 53), (.int 355 0), (.int 9 0), (.str "/claim/cut.py" 356)]), #[]⟩),
  (55, fo (st 6) "quotedata" "quotedata" [] .none (.str "cpy313.smtplib" 289) (.ref 54) .none),
  (59, ⟨(.type "cell"), none, (.cell (some (.ref 133))), #[]⟩),
  (64, ⟨(.type "tuple"), none, (.seq #[(.int 0 374)] 0), #[]⟩),
  (65, ⟨(.type "tuple"), none, (.seq #[(.ref 59)] 0), #[]⟩),
  (71, ⟨(.type "code"), none, (.fields #[(.str "__init__" 375), (.str "_Accumulator.__init__" 376), (.str "/claim/cut.py" 377), (.int 15 0), (.int 2 0), (.int 0 0), (.int 0 0), (.int 3 0), (.ref 66), (.bool true), (.int 276 0), (.ref 67), .none, (.ref 68), (.ref 69), (.ref 70), (.int 381 0), (.int 15 0), (.str "/claim/cut.py" 382)]), #[]⟩),
  (72, fo (mt 0) "__init__" "_Accumulator.__init__" [("__class__", 59)] (.ref 64) (.str "cpy313.email.header" 358) (.ref 71) (.ref 65)),
  (78, ⟨(.type "code"), none, (.fields #[(.str "push" 384), (.str "_Accumulator.push" 385), (.str "/claim/cut.py" 386), (.int 19 0), (.int 3 0), (.int 0 0), (.int 0 0), (.int 3 0), (.ref 73), (.bool true), (.int 276 0), (.ref 74), .none, (.ref 75), (.ref 76), (.ref 77), (.int 390 0), (.int 19 0), (.str "/claim/cut.py" 391)]), #[]⟩),
  (79, fo (mt 1) "push" "_Accumulator.push" [] .none (.str "cpy313.email.header" 358) (.ref 78) .none),
  (80, ⟨(.type "tuple"), none, (.seq #[(.int 0 393)] 0), #[]⟩),
  (86, ⟨(.type "code"), none, (.fields #[(.str "pop_from" 394), (.str "_Accumulator.pop_from" 395), (.str "/claim/cut.py" 396), (.int 22 0), (.int 2 0), (.int 0 0), (.int 0 0), (.int 3 0), (.ref 81), (.bool true), (.int 276 0), (.ref 82), .none, (.ref 83), (.ref 84), (.ref 85), (.int 400 0), (.int 22 0), (.str "/claim/cut.py" 401)]), #[]⟩),
  (87, fo (mt 2) "pop_from" "_Accumulator.pop_from" [] (.ref 80) (.str "cpy313.email.header" 358) (.ref 86) .none),
  (103, ⟨.none, none, (.fields #[]), #[]⟩),
  (107, ⟨(.type "code"), none, (.fields #[(.str "__str__" 417), (.str "_Accumulator.__str__" 418), (.str "/claim/cut.py" 419), (.int 33 0), (.int 1 0), (.int 0 0), (.int 0 0), (.int 3 0), (.ref 102), (.bool true), (.int 276 0), (.ref 103), .none, (.ref 104), (.ref 105), (.ref 106), (.int 421 0), (.int 33 0), (.str "/claim/cut.py" 422)]), #[]⟩),
  (108, fo (mt 5) "__str__" "_Accumulator.__str__" [] .none (.str "cpy313.email.header" 358) (.ref 107) .none),
  (132, ⟨(.type "dict"), none, (.dict #[en P "__module__" 369 (.str "cpy313.email.header" 358), en P "__firstlineno__" 373 (.int 13 372), en P "__init__" 383 (.ref 72), en P "push" 392 (.ref 79), en P "pop_from" 402 (.ref 87), en P "pop" 409 (.ref 94), en P "__len__" 416 (.ref 101), en P "__str__" 423 (.ref 108), en P "reset" 431 (.ref 116), en P "is_onlyws" 438 (.ref 123), en P "part_count" 445 (.ref 130), en P "__static_attributes__" 447 (.ref 131), en P "__dict__" 450 (.ref 134), en P "__weakref__" 452 (.ref 135), en P "__doc__" 453 .none] 5), #[]⟩),
  (133, ⟨(.type "type"), none, (.cls { name := "_Accumulator", bases := [(.type "list")], mro := [(.ref 133), (.type "list"), (.type "object")], ns := 132, qualname := "_Accumulator", hasDict := true, slotNames := [], subclasses := [], abstract := false, collection := none, hasDel := false }), #[some (.ref 56), none, some (.str "_Accumulator" 362), some (.str "_Accumulator" 370), some (.builtin "list.__new__"), some (.bool true)]⟩),
  (146, ⟨(.type "dict"), none, (.dict #[en P "__module__" 465 (.str "cpy313.ftplib" 456), en P "__firstlineno__" 469 (.int 45 468), en P "__static_attributes__" 470 (.ref 145), en P "__weakref__" 472 (.ref 148), en P "__doc__" 473 .none] 3), #[]⟩),
  (147, ⟨(.type "type"), none, (.cls { name := "Error", bases := [(.type "Exception")], mro := [(.ref 147), (.type "Exception"), (.type "BaseException"), (.type "object")], ns := 146, qualname := "Error", hasDict := true, slotNames := [], subclasses := [(.ref 160), (.ref 172)], abstract := false, collection := none, hasDel := false }), #[some (.ref 138), none, some (.str "Error" 458), some (.str "Error" 466), some (.builtin "Exception.__new__"), some (.bool true)]⟩),
  (159, ⟨(.type "dict"), none, (.dict #[en P "__module__" 485 (.str "cpy313.ftplib" 456), en P "__firstlineno__" 489 (.int 47 488), en P "__static_attributes__" 490 (.ref 158), en P "__doc__" 491 .none] 2), #[]⟩),
  (160, ⟨(.type "type"), none, (.cls { name := "error_reply", bases := [(.ref 147)], mro := [(.ref 160), (.ref 147), (.type "Exception"), (.type "BaseException"), (.type "object")], ns := 159, qualname := "error_reply", hasDict := true, slotNames := [], subclasses := [], abstract := false, collection := none, hasDel := false }), #[some (.ref 151), none, some (.str "error_reply" 478), some (.str "error_reply" 486), some (.builtin "Exception.__new__"), some (.bool true)]⟩),
  (171, ⟨(.type "dict"), none, (.dict #[en P "__module__" 501 (.str "cpy313.ftplib" 456), en P "__firstlineno__" 505 (.int 49 504), en P "__static_attributes__" 506 (.ref 170), en P "__doc__" 507 .none] 2), #[]⟩),
  (172, ⟨(.type "type"), none, (.cls { name := "error_proto", bases := [(.ref 147)], mro := [(.ref 172), (.ref 147), (.type "Exception"), (.type "BaseException"), (.type "object")], ns := 171, qualname := "error_proto", hasDict := true, slotNames := [], subclasses := [], abstract := false, collection := none, hasDel := false }), #[some (.ref 163), none, some (.str "error_proto" 494), some (.str "error_proto" 502), some (.builtin "Exception.__new__"), some (.bool true)]⟩),
  (180, ⟨(.type "code"), none, (.fields #[(.str "parse229" 510), (.str "parse229" 511), (.str "/claim/cut.py" 512), (.int 51 0), (.int 2 0), (.int 0 0), (.int 0 0), (.int 3 0), (.ref 175), (.bool true), (.int 276 0), (.ref 176), .none, (.ref 177), (.ref 178), (.ref 179), (.int 520 0), (.int 51 0), (.str "/claim/cut.py" 521)]), #[]⟩),
  (181, fo (st 14) "parse229" "parse229" [] .none (.str "cpy313.ftplib" 456) (.ref 180) .none),
  (187, ⟨(.type "code"), none, (.fields #[(.str "_law_number" 525), (.str "_law_number" 526), (.str "/claim/cut.py" 527), (.int 69 0), (.int 2 0), (.int 0 0), (.int 0 0), (.int 3 0), (.ref 182), (.bool true), (.int 276 0), (.ref 183), .none, (.ref 184), (.ref 185), (.ref 186), (.int 531 0), (.int 69 0), (.str "/claim/cut.py" 532)]), #[]⟩),
  (188, fo (st 16) "_law_number" "_law_number" [] .none (.str "law_xl0004_01" 523) (.ref 187) .none),
  (194, ⟨(.type "code"), none, (.fields #[(.str "_law_word" 534), (.str "_law_word" 535), (.str "/claim/cut.py" 536), (.int 74 0), (.int 1 0), (.int 0 0), (.int 0 0), (.int 3 0), (.ref 189), (.bool true), (.int 276 0), (.ref 190), .none, (.ref 191), (.ref 192), (.ref 193), (.int 539 0), (.int 74 0), (.str "/claim/cut.py" 540)]), #[]⟩),
  (195, fo (st 17) "_law_word" "_law_word" [] .none (.str "law_xl0004_01" 523) (.ref 194) .none),
  (199, ⟨(.type "code"), none, (.fields #[(.str "_law_fits" 542), (.str "_law_fits" 543), (.str "/claim/cut.py" 544), (.int 77 0), (.int 3 0), (.int 0 0), (.int 0 0), (.int 3 0), (.ref 196), (.bool true), (.int 276 0), (.ref 197), .none, .none, .none, (.ref 198), (.int 545 0), (.int 77 0), (.str "/claim/cut.py" 546)]), #[]⟩),
  (200, fo (st 18) "_law_fits" "_law_fits" [] .none (.str "law_xl0004_01" 523) (.ref 199) .none),
  (204, ⟨(.type "code"), none, (.fields #[(.str "_law_sent" 548), (.str "_law_sent" 549), (.str "/claim/cut.py" 550), (.int 81 0), (.int 1 0), (.int 0 0), (.int 0 0), (.int 3 0), (.ref 201), (.bool true), (.int 276 0), (.ref 202), .none, .none, .none, (.ref 203), (.int 551 0), (.int 81 0), (.str "/claim/cut.py" 552)]), #[]⟩),
  (205, fo (st 19) "_law_sent" "_law_sent" [] .none (.str "law_xl0004_01" 523) (.ref 204) .none),
  (209, ⟨(.type "code"), none, (.fields #[(.str "_law_ready" 554), (.str "_law_ready" 555), (.str "/claim/cut.py" 556), (.int 87 0), (.int 1 0), (.int 0 0), (.int 0 0), (.int 3 0), (.ref 206), (.bool true), (.int 276 0), (.ref 207), .none, .none, .none, (.ref 208), (.int 557 0), (.int 87 0), (.str "/claim/cut.py" 558)]), #[]⟩),
  (210, fo (st 20) "_law_ready" "_law_ready" [] .none (.str "law_xl0004_01" 523) (.ref 209) .none),
  (214, ⟨(.type "code"), none, (.fields #[(.str "_law_filled" 560), (.str "_law_filled" 561), (.str "/claim/cut.py" 562), (.int 90 0), (.int 2 0), (.int 0 0), (.int 0 0), (.int 3 0), (.ref 211), (.bool true), (.int 276 0), (.ref 212), .none, .none, .none, (.ref 213), (.int 563 0), (.int 90 0), (.str "/claim/cut.py" 564)]), #[]⟩),
  (215, fo (st 21) "_law_filled" "_law_filled" [] .none (.str "law_xl0004_01" 523) (.ref 214) .none),
  (219, ⟨(.type "code"), none, (.fields #[(.str "_law_piles" 566), (.str "_law_piles" 567), (.str "/claim/cut.py" 568), (.int 107 0), (.int 1 0), (.int 0 0), (.int 0 0), (.int 3 0), (.ref 216), (.bool true), (.int 276 0), (.ref 217), .none, .none, .none, (.ref 218), (.int 569 0), (.int 107 0), (.str "/claim/cut.py" 570)]), #[]⟩),
  (220, fo (st 22) "_law_piles" "_law_piles" [] .none (.str "law_xl0004_01" 523) (.ref 219) .none),
  (226, ⟨(.type "code"), none, (.fields #[(.str "_law_port" 572), (.str "_law_port" 573), (.str "/claim/cut.py" 574), (.int 122 0), (.int 1 0), (.int 0 0), (.int 0 0), (.int 3 0), (.ref 221), (.bool true), (.int 276 0), (.ref 222), .none, (.ref 223), (.ref 224), (.ref 225), (.int 576 0), (.int 122 0), (.str "/claim/cut.py" 577)]), #[]⟩),
  (227, fo (st 23) "_law_port" "_law_port" [] .none (.str "law_xl0004_01" 523) (.ref 226) .none),
  (231, ⟨(.type "code"), none, (.fields #[(.str "law" 579), (.str "law" 580), (.str "/claim/cut.py" 581), (.int 129 0), (.int 1 0), (.int 0 0), (.int 0 0), (.int 3 0), (.ref 228), (.bool true), (.int 276 0), (.ref 229), .none, .none, .none, (.ref 230), (.int 582 0), (.int 129 0), (.str "/claim/cut.py" 583)]), #[]⟩),
  (232, fo (st 24) "law" "law" [] .none (.str "law_xl0004_01" 523) (.ref 231) .none)]
noncomputable def KA : List Nat := [3, 42, 43, 47, 48, 54, 55, 59, 64, 65, 71, 72, 78, 79, 80, 86, 87, 103, 107, 108, 132, 133, 146, 147, 159, 160, 171, 172, 180, 181, 187, 188, 194, 195, 199, 200, 204, 205, 209, 210, 214, 215, 219, 220, 226, 227, 231, 232]
noncomputable def opqOk (h : Heap) : Bool := h.isNs cStatics && (h.nsMap cStatics "thirdparty.any").isNone
noncomputable def Opq (h : Heap) : Prop := ∃ mc, h.Ns cStatics mc ∧ mc "thirdparty.any" = none
noncomputable def hk : Hook := ⟨List (Option Obj) × Bool, fun s => (KA.map s.heap.get?, opqOk s.heap), fun w => ((KX w.params).map fun p => some p.2, true), fun w h => InK KX w h ∧ Opq h,
  fun w s e => ⟨InK.of (as := KA) (K := KX) (fun _ => rfl) w s (congrArg Prod.fst e), have x := congrArg Prod.snd e; ⟨_, .of_isNs (Bool.and_eq_true_iff.mp x).1, Option.isNone_iff_eq_none.mp (Bool.and_eq_true_iff.mp x).2⟩⟩,
  fun w h h' x k => ⟨InK.keeps w h h' x.1 k, let ⟨mc, a, b⟩ := x.2; ⟨mc, a.keeps k, b⟩⟩⟩
theorem left : LeftO PySem.Challenge.pw_xl0004_01 vw loose (fun s => xlAt vw [] s && recOk [] s) hk.obs hk.val 3444 := by
  intro w
  unfold openEnds fencedOpening topFrom
  rw [PySem.W.Fast.te14364793385576792824, PySem.W.Fast.te10274390034422433532, PySem.W.Fast.te14082659384304107361, PySem.W.Fast.te4187177175401517315]
  kernel_rfl
end Mine
namespace Mine
set_option maxRecDepth 100000
set_option maxHeartbeats 0
open PySem PySem.W PyProof.Rows
noncomputable def dLaw : DefRec := ⟨"law", fA (st 24), fB (st 24), fS (st 24), ⟨129, 0, 165, 35⟩⟩
theorem hdefLaw : defOf vw "law" = some (dLaw, []) := by kernel_rfl
theorem hpLaw : pw.theDef "law" = some (dLaw.params, dLaw.body, dLaw.scope) := by kernel_rfl
theorem hkLaw : kwWritten? dLaw.params.kwonlyargs dLaw.params.kw_defaults = some [] := by kernel_rfl
theorem head (call : WalkO vw loose (XL vw []) hk.says PySem.Challenge.rw_xl0004_01.row.toRowW dLaw [] fun f vs => PySem.call f vs) : PySem.Challenge.rw_xl0004_01.Holds := by

  refine holds_law (by kernel_rfl) fun said => ?_
  refine holds_open (q := vw) (loose := loose) (Xt := fun s => xlAt vw [] s && recOk [] s) (XP := XL vw []) (Yf := hk.obs) (Ya := hk.val) (YP := hk.says) (N := 3444) left hk.of hk.keeps
    (fun s e => xl_of s (Bool.and_eq_true_iff.mp e).1) XL.keeps hdefLaw hpLaw hkLaw (fun s e => recFacts_of (Bool.and_eq_true_iff.mp e).2) (by rfl) (by first | assumption | decide +kernel) (by decide +kernel) ⟨rfl, rfl, rfl, rfl, rfl, by decide +kernel⟩ ?hw call
  w_witness2
end Mine
namespace Mine
set_option maxRecDepth 100000
open PySem PySem.W PyProof.Rows

/-! ## what stands, and what may change -/

/-- a code table: the one kind of old object that a call may add to -/
noncomputable def Tb (o : Obj) : Prop := o.cls = .none ∧ ∃ vs, o.data = .fields vs

/-- the table of codes of __str__ -/
noncomputable def Tab (h : Heap) : Prop := ∃ ps, h.IsCode 107 103 ps ∧ h.TableAt 107 103 ps
theorem Tab.keeps {h h' : Heap} (x : Tab h) (k : ∀ b o, h.get? b = some o → h'.get? b = some o) : Tab h' := let ⟨ps, a, b⟩ := x; ⟨ps, a.keeps k, b.keeps k⟩
theorem Tab.lt {h : Heap} (x : Tab h) : 107 < h.objs.size := let ⟨_, _, ⟨⟨_, _, e, _⟩, _⟩⟩ := x; Heap.lt_size e
theorem Tab.but {h h' : Heap} {a : Addr} (x : Tab h) (k : Heap.ExtBut a h h') (h3 : 103 ≠ a) (h7 : 107 ≠ a) : Tab h' := let ⟨ps, y, z⟩ := x; ⟨ps, y.extBut k h7 h3, z.extBut k h7 h3⟩

/-- s' lies behind s: every object is as it was, but code tables, 103 -/
structure Gw (s s' : Shared) : Prop where
  keep : ∀ b o, s.heap.get? b = some o → (Tb o → b ≠ 103) → s'.heap.get? b = some o
  size : s.heap.objs.size ≤ s'.heap.objs.size
  os : s'.os = s.os
  gens : AllBare s.gens → AllBare s'.gens
  tab : Tab s.heap → Tab s'.heap

theorem Gw.refl (s : Shared) : Gw s s := ⟨fun _ _ e _ => e, Nat.le_refl _, rfl, id, id⟩
theorem Gw.trans {s s' s'' : Shared} (a : Gw s s') (b : Gw s' s'') : Gw s s'' :=
  ⟨fun x o e t => b.keep x o (a.keep x o e t) t, Nat.le_trans a.size b.size, b.os.trans a.os, fun h => b.gens (a.gens h), fun h => b.tab (a.tab h)⟩


theorem Gw.of_keep {s : Shared} {h' : Heap} {tk : Nat} (k : ∀ b o, s.heap.get? b = some o → h'.get? b = some o) (hs : s.heap.objs.size ≤ h'.objs.size) : Gw s { s with heap := h', toks := tk } :=
  ⟨fun b o e _ => k b o e, hs, rfl, id, fun x => x.keeps k⟩
theorem Gw.tok {s s' : Shared} (a : Gw s s') (tk : Nat) : Gw s { s' with toks := tk } := ⟨a.keep, a.size, a.os, a.gens, a.tab⟩
theorem Gw.push {s s' : Shared} (a : Gw s s') (o : Obj) (tk : Nat) : Gw s { s' with heap := s'.heap.push o, toks := tk } :=
  a.trans (.of_keep (fun _ _ e => Heap.get?_push_of_some _ e) (by rw [Heap.size_push]; omega))

/-- the entries of the module's dict -/
noncomputable def glE (P : Params) : Array DictEntry := match (KX P).lookup 3 with
  | some ⟨_, _, .dict es _, _⟩ => es
  | _ => #[]
noncomputable def glob (P : Params) (x : Str) : Option Value := nsFind (glE P) x

/-- the world around a call -/
structure Wd (w : World) (h : Heap) : Prop where
  k : ∀ a o, a ≠ 103 → (KX w.params).lookup a = some o → h.get? a = some o
  b : ∃ mb, h.Ns builtinsNs mb ∧ ∀ x : Str, x ≠ "__name__" → mb x = bootBuiltins x
  nolimit : h.NoLimit
  nodigits : ∃ mc, h.Ns cStatics mc ∧ mc "sys.int_max_str_digits" = none
  opq : Opq h
  tab : Tab h
  bmain : ∃ ob, h.get? 4 = some ob ∧ ob.cls = .type "module" ∧ ob.dict = some builtinsNs ∧ ob.data = .plain

theorem notTb_of_dict {o : Obj} {es : Array DictEntry} {n : Nat} (h : o.data = .dict es n) : ¬ Tb o := fun t => by obtain ⟨_, vs, e⟩ := t; rw [h] at e; cases e
theorem notTb_of_cls {o : Obj} (h : o.cls ≠ .none) : ¬ Tb o := fun t => h t.1
theorem Ns.gw {s s' : Shared} (a : Gw s s') {x : Addr} {m : Str → Option Value} (h : s.heap.Ns x m) : s'.heap.Ns x m :=
  let ⟨o, es, ep, e, d, r⟩ := h; ⟨o, es, ep, a.keep _ _ e fun t => absurd t (notTb_of_dict d), d, r⟩

theorem kx_firm {P : Params} : ∀ a o, a ≠ 103 → (KX P).lookup a = some o → ¬ Tb o := by
  intro a o ha h
  have hm : (a, o) ∈ KX P := by
    clear ha
    generalize KX P = l at h
    induction l with
    | nil => cases h
    | cons p l ih =>
      obtain ⟨k, v⟩ := p
      rw [List.lookup_cons] at h
      by_cases hk : (a == k) = true
      · rw [hk] at h; cases h; rw [eq_of_beq hk]; exact List.mem_cons_self ..
      · simp only [Bool.not_eq_true] at hk
        rw [hk] at h; exact List.mem_cons_of_mem _ (ih h)
  have key : ∀ p ∈ KX P, p.1 = 103 ∨ p.2.cls ≠ .none := by
    have : ((KX P).all fun p => p.1 == 103 || (match p.2.cls with | .none => false | _ => true)) = true := by kernel_rfl
    intro p hp
    have := List.all_eq_true.mp this p hp
    rcases Bool.or_eq_true_iff.mp this with h | h
    · exact .inl (eq_of_beq h)
    · refine .inr fun e => ?_
      rw [e] at h; cases h
  rcases key _ hm with h | h
  · exact absurd h ha
  · exact notTb_of_cls h

theorem Wd.gw {w : World} {s s' : Shared} (a : Gw s s') (W : Wd w s.heap) : Wd w s'.heap where
  k := fun x o hx e => a.keep _ _ (W.k x o hx e) fun t => absurd t (kx_firm x o hx e)
  b := let ⟨mb, h, r⟩ := W.b; ⟨mb, Ns.gw a h, r⟩
  nolimit := let ⟨mc, h, r⟩ := W.nolimit; ⟨mc, Ns.gw a h, r⟩
  nodigits := let ⟨mc, h, r⟩ := W.nodigits; ⟨mc, Ns.gw a h, r⟩
  opq := let ⟨mc, h, r⟩ := W.opq; ⟨mc, Ns.gw a h, r⟩
  tab := a.tab W.tab
  bmain := let ⟨ob, h, c, r⟩ := W.bmain; ⟨ob, a.keep _ _ h fun t => absurd t (notTb_of_cls (by rw [c]; exact fun e => nomatch e)), c, r⟩

theorem kx_lookup3 (P : Params) : (KX P).lookup 3 = some ⟨.type "dict", none, .dict (glE P) 30, #[]⟩ := by kernel_rfl
theorem glob_keys (P : Params) : StrKeys (glE P) := by
  have : (glE P).toList.all (fun e => match e.key with | .str _ _ => true | _ => false) = true := by kernel_rfl
  intro e he
  have := List.all_eq_true.mp this e (Array.mem_toList_iff.mpr he)
  cases hk : e.key <;> rw [hk] at this <;> first | exact ⟨_, _, rfl⟩ | cases this
theorem Wd.g {w : World} {h : Heap} (W : Wd w h) : h.Ns mainGlobals (glob w.params) :=
  ⟨_, _, _, W.k 3 _ (by decide) (kx_lookup3 _), rfl, glob_keys _, fun _ => rfl⟩

/-! ## a frame of the law's own defs -/

noncomputable def lkp : List (Str × Value) → Str → Option Value
  | [], _ => none
  | (y, v) :: l, x => if x = y then some v else lkp l x
theorem lkp_here (x : Str) (v : Value) (l : List (Str × Value)) : lkp ((x, v) :: l) x = some v := if_pos rfl
theorem lkp_there {x y : Str} {v u : Value} {l : List (Str × Value)} (h : decide (x = y) = false) (e : lkp l x = some v) : lkp ((y, u) :: l) x = some v := by
  show (if x = y then _ else _) = _
  rw [if_neg (of_decide_eq_false h)]; exact e

/-- not one of the frame's own objects -/
noncomputable def offE (env : Env) (b : Addr) : Prop := b ≠ env.locals ∧ ∀ x c, (x, c) ∈ env.cells → b ≠ c
/-- a saying about new objects that the frame's own stores don't touch -/
noncomputable def Stb (env : Env) (P : Heap → Prop) : Prop := ∀ h h' : Heap, (∀ b o, offE env b → h.get? b = some o → (Tb o → b ≠ 103) → h'.get? b = some o) → P h → P h'

structure Fm (w : World) (g : Shared) (o : Bool) (sc : Scope) (env : Env) (s : Shared) (l : List (Str × Value)) (P : Heap → Prop) : Prop where
  hsc : env.scope = sc
  gb : env.globals = mainGlobals ∧ env.builtins = builtinsNs
  ce : ∀ x, sc.names.lookup x = some .cell → (env.cells.lookup x).isSome = true
  nd : (env.cells.map (·.1)).Nodup
  wd : Wd w g.heap
  gw : Gw g s
  fresh : g.heap.objs.size ≤ env.locals
  fr : ∃ (m cm : Str → Option Value), s.heap.Ns env.locals m ∧ (∀ x c, env.cells.lookup x = some c → s.heap.IsCell c (cm x)) ∧
    ∀ x v, lkp l x = some v → (sc.names.lookup x = some .local → m x = some v) ∧ (sc.names.lookup x = some .cell → cm x = some v)
  apart : env.cells.Pairwise fun x y => x.2 ≠ y.2
  ne : ∀ x c, (x, c) ∈ env.cells → env.locals ≠ c
  lt : ∀ x c, (x, c) ∈ env.cells → c < s.heap.objs.size
  own : o = true → ∀ x c, (x, c) ∈ env.cells → env.locals < c
  stb : Stb env P
  pins : P s.heap

theorem Stb.true (env : Env) : Stb env fun _ => True := fun _ _ _ _ => trivial
theorem Stb.and {env : Env} {P R : Heap → Prop} (a : Stb env P) (b : Stb env R) : Stb env fun h => R h ∧ P h := fun h h' k x => ⟨b h h' k x.1, a h h' k x.2⟩

section
variable {w : World} {g : Shared} {o : Bool} {sc : Scope} {env : Env} {s : Shared} {l : List (Str × Value)} {P : Heap → Prop}

theorem Fm.Wd (F : Fm w g o sc env s l P) : Wd w s.heap := Wd.gw F.gw F.wd

/-- a later state that leaves every object as it was, code tables apart -/
theorem Fm.gws (F : Fm w g o sc env s l P) {s' : Shared} (a : Gw s s') : Fm w g o sc env s' l P := by
  obtain ⟨m, cm, h1, h2, h3⟩ := F.fr
  refine ⟨F.hsc, F.gb, F.ce, F.nd, F.wd, F.gw.trans a, F.fresh, ⟨m, cm, Ns.gw a h1, fun x c e => ?_, h3⟩, F.apart, F.ne, fun x c h => Nat.lt_of_lt_of_le (F.lt x c h) a.size, F.own, F.stb, F.stb _ _ (fun b o _ e t => a.keep b o e t) F.pins⟩
  obtain ⟨ob, ho, hd⟩ := h2 x c e
  exact ⟨ob, a.keep _ _ ho (fun t => by obtain ⟨_, vs, e⟩ := t; rw [hd] at e; cases e), hd⟩
theorem Fm.tok (F : Fm w g o sc env s l P) (tk : Nat) : Fm w g o sc env { s with toks := tk } l P := F.gws ((Gw.refl s).tok tk)
theorem Fm.push (F : Fm w g o sc env s l P) (ob : Obj) (tk : Nat) : Fm w g o sc env { s with heap := s.heap.push ob, toks := tk } l P := F.gws ((Gw.refl s).push ob tk)
theorem Fm.pin (F : Fm w g o sc env s l P) {R : Heap → Prop} (hR : Stb env R) (r : R s.heap) : Fm w g o sc env s l (fun h => R h ∧ P h) :=
  ⟨F.hsc, F.gb, F.ce, F.nd, F.wd, F.gw, F.fresh, F.fr, F.apart, F.ne, F.lt, F.own, F.stb.and hR, ⟨r, F.pins⟩⟩
theorem Fm.weak (F : Fm w g o sc env s l P) {R : Heap → Prop} (hR : Stb env R) (r : P s.heap → R s.heap) : Fm w g o sc env s l R :=
  ⟨F.hsc, F.gb, F.ce, F.nd, F.wd, F.gw, F.fresh, F.fr, F.apart, F.ne, F.lt, F.own, hR, r F.pins⟩

/-- fewer names, or the same in another order -/
inductive Subs (l : List (Str × Value)) : List (Str × Value) → Prop
  | nil : Subs l []
  | cons {x : Str} {v : Value} {l' : List (Str × Value)} : lkp l x = some v → Subs l l' → Subs l ((x, v) :: l')
theorem Subs.lkp {l l' : List (Str × Value)} (h : Subs l l') : ∀ x v, lkp l' x = some v → lkp l x = some v := by
  induction h with
  | nil => intro x v e; cases e
  | @cons y u l' hy _ ih =>
    intro x v e
    by_cases hx : x = y
    · subst hx; rw [lkp_here] at e; cases e; exact hy
    · refine ih x v ?_
      have : Mine.lkp ((y, u) :: l') x = Mine.lkp l' x := if_neg hx
      rw [this] at e; exact e
theorem Fm.sub (F : Fm w g o sc env s l P) {l' : List (Str × Value)} (h : Subs l l') : Fm w g o sc env s l' P := by
  obtain ⟨m, cm, h1, h2, h3⟩ := F.fr
  exact ⟨F.hsc, F.gb, F.ce, F.nd, F.wd, F.gw, F.fresh, ⟨m, cm, h1, h2, fun x v e => h3 x v (h.lkp x v e)⟩, F.apart, F.ne, F.lt, F.own, F.stb, F.pins⟩

theorem Fm.loc_lt (F : Fm w g o sc env s l P) : env.locals < s.heap.objs.size := let ⟨_, _, h1, _⟩ := F.fr; Heap.Ns.lt h1
theorem Fm.off (F : Fm w g o sc env s l P) {a : Addr} (h : s.heap.objs.size ≤ a) : offE env a :=
  ⟨fun e => by have := F.loc_lt; rw [← e] at this; exact absurd h (Nat.not_le.mpr this), fun x c hx e => absurd h (Nat.not_le.mpr (e ▸ F.lt x c hx))⟩
end
end Mine
namespace Mine
set_option maxRecDepth 100000
open PySem PySem.W PyProof.Rows

noncomputable abbrev MM (w : World) : Model := model PySem.Challenge.pw_xl0004_01 w

/-- room around a call -/
structure Rm (A : Around) (k : Nat) : Prop where
  handled : A.handled = none
  depth : A.depth + k ≤ 900
  units : A.units + 3 * k ≤ 9000
theorem Rm.lim {A : Around} {k : Nat} (R : Rm A k) : A.depth < recursionLimit := by have := R.depth; unfold recursionLimit; omega
theorem Rm.line {A : Around} {k : Nat} (R : Rm A k) : A.units < cLine := by have := R.units; unfold cLine; omega
theorem Rm.deeper {A : Around} {k : Nat} (R : Rm A (k + 1)) (env : Env) : Rm (A.deeper env) k :=
  ⟨R.handled, by have := R.depth; show A.depth + 1 + k ≤ _; omega, by have := R.units; show A.units + 3 + _ ≤ _; omega⟩
theorem Rm.less {A : Around} {k j : Nat} (R : Rm A k) (h : j ≤ k) : Rm A j := ⟨R.handled, by have := R.depth; omega, by have := R.units; omega⟩

noncomputable def codeOk (P : Params) (cd : Value) (q : Str) : Bool := match cd with
  | .ref c => c != 103 && (match (KX P).lookup c with
    | some ⟨_, _, .fields vs, _⟩ => (match (vs : Array Value)[1]? with | some (Value.str x _) => x == q | _ => false)
    | _ => false)
  | _ => false
theorem Wd.code {w : World} {h : Heap} (W : Wd w h) {cd : Value} {q : Str} (e : codeOk w.params cd q = true) : h.CodeRec cd q := by
  unfold codeOk at e
  split at e
  · rename_i c
    obtain ⟨e1, e2⟩ := Bool.and_eq_true_iff.mp e
    split at e2
    · rename_i _ _ _ vs _ hl
      split at e2
      · rename_i x t hv
        have : x = q := eq_of_beq e2
        subst this
        exact ⟨c, _, vs, t, rfl, W.k c _ (by simpa using e1) hl, rfl, hv⟩
      · cases e2
    · cases e2
  · cases e

noncomputable def fnOk (P : Params) (a : Addr) (fd : FuncData) : Prop := a ≠ 103 ∧ (KX P).lookup a = some ⟨.type "function", none, .func fd, #[]⟩

theorem lkp_mem : ∀ {l : List (Str × Value)} {x : Str} {v : Value}, lkp l x = some v → (x, v) ∈ l
  | [], _, _, h => nomatch h
  | (y, u) :: l, x, v, h => by
    unfold lkp at h
    by_cases hx : x = y
    · rw [if_pos hx] at h; cases h; subst hx; exact List.mem_cons_self ..
    · rw [if_neg hx] at h; exact List.mem_cons_of_mem _ (lkp_mem h)
theorem bindL_keep (k : Str → Option NameKind) : ∀ (l : List (Str × Value)) (m : Str → Option Value) (x : Str), x ∉ l.map (·.1) → bindL k l m x = m x
  | [], _, _, _ => rfl
  | (y, u) :: l, m, x, h => by
    simp only [List.map_cons, List.mem_cons, not_or] at h
    unfold bindL
    rw [bindL_keep k l _ x h.2]
    split
    · exact if_neg h.1
    · rfl
theorem bindC_keep (k : Str → Option NameKind) : ∀ (l : List (Str × Value)) (m : Str → Option Value) (x : Str), x ∉ l.map (·.1) → bindC k l m x = m x
  | [], _, _, _ => rfl
  | (y, u) :: l, m, x, h => by
    simp only [List.map_cons, List.mem_cons, not_or] at h
    unfold bindC
    rw [bindC_keep k l _ x h.2]
    split
    · rfl
    · exact if_neg h.1
theorem bindL_of (k : Str → Option NameKind) : ∀ (l : List (Str × Value)) (m : Str → Option Value) (x : Str) (v : Value), (l.map (·.1)).Nodup → lkp l x = some v → k x = some .local → bindL k l m x = some v
  | [], _, _, _, _, h, _ => nomatch h
  | (y, u) :: l, m, x, v, hn, h, hk => by
    obtain ⟨h1, h2⟩ := List.nodup_cons.mp hn
    unfold lkp at h
    unfold bindL
    by_cases hx : x = y
    · subst hx; rw [if_pos rfl] at h; cases h
      rw [bindL_keep k l _ x h1, if_pos hk]; exact if_pos rfl
    · rw [if_neg hx] at h; exact bindL_of k l _ x v h2 h hk
theorem bindC_of (k : Str → Option NameKind) : ∀ (l : List (Str × Value)) (m : Str → Option Value) (x : Str) (v : Value), (l.map (·.1)).Nodup → lkp l x = some v → k x = some .cell → bindC k l m x = some v
  | [], _, _, _, _, h, _ => nomatch h
  | (y, u) :: l, m, x, v, hn, h, hk => by
    obtain ⟨h1, h2⟩ := List.nodup_cons.mp hn
    unfold lkp at h
    unfold bindC
    by_cases hx : x = y
    · subst hx; rw [if_pos rfl] at h; cases h
      rw [bindC_keep k l _ x h1, if_neg (by rw [hk]; simp)]; exact if_pos rfl
    · rw [if_neg hx] at h; exact bindC_of k l _ x v h2 h hk

theorem cells_names : ∀ (names : List (Str × NameKind)) (n k : Nat) (acc acc' : List (Str × Addr)), acc.map (·.1) = acc'.map (·.1) → (cellsFrom n names acc).map (·.1) = (cellsFrom k names acc').map (·.1)
  | [], _, _, _, _, h => h
  | (x, kd) :: r, n, k, acc, acc', h => by
    unfold cellsFrom
    split
    · exact cells_names r _ _ _ _ (by simp [h])
    · exact cells_names r _ _ _ _ h
theorem lookup_of_mem {α : Type} : ∀ {l : List (Str × α)} {x : Str} {c : α}, (l.map (·.1)).Nodup → (x, c) ∈ l → l.lookup x = some c
  | (y, d) :: l, x, c, hn, h => by
    obtain ⟨h1, h2⟩ := List.nodup_cons.mp hn
    rw [List.lookup_cons]
    rcases List.mem_cons.mp h with e | h
    · cases e; simp
    · have : x ≠ y := fun e => h1 (e ▸ List.mem_map.mpr ⟨_, h, rfl⟩)
      rw [beq_eq_false_iff_ne.mpr this]
      exact lookup_of_mem h2 h

section
variable {w : World} {A : Around} {E : Value → Shared → Prop} {s : Shared} {g : Shared} {o : Bool} {sc : Scope} {env : Env} {l : List (Str × Value)} {P : Heap → Prop}

/-- named ways on -/
noncomputable abbrev KRet (Q : Value → Shared → Prop) : Flow → Shared → Prop := fun f s' => Q (match f with | .ret v => v | _ => .none) s'
/-- a call of one of the text's defs -/
theorem codeG {a : Addr} {fd : FuncData} {body : List Stmt} {vals : List Value} {binds : List (Str × Value)} {Q : Result → Shared → Prop} (names : List Str) (W : Wd w s.heap) (R : A.depth < recursionLimit) (ho : fnOk w.params a fd)
    (hcd : codeOk w.params fd.code fd.qualname = true) (hbody : fd.body = .stmts body) (hbind : BindsTo s fd ⟨vals, []⟩ binds) (hclo : fd.closure = [])
    (hkind : binds.all (fun x => fd.scope.names.lookup x.1 == some .local || (fd.scope.names.lookup x.1 == some .cell && ((cellsFrom (s.heap.objs.size + 1) fd.scope.names []).lookup x.1).isSome)) = true)
    (hnm : binds.map (·.1) = names) (hnd : names.Nodup) (hcn : ((cellsFrom 0 fd.scope.names []).map (·.1)).Nodup)
    (hco : (!fd.scope.isCoroutine && !fd.scope.isGenerator && fd.scope.kind == .function) = true)
    (hgl : fd.globals = mainGlobals ∧ fd.builtins = builtinsNs)
    (h : ∀ s₁ env, env = callEnvC fd s.heap.objs.size a → Fm w s true fd.scope env s₁ binds (fun _ => True) → wpAny (MM w) (A.deeper env) (execs body env) (fun f s' => Q (.ok (.ret (match f with | .ret v => v | _ => .none))) s')
      (fun e s' => wpAny (MM w) (A.deeper env) (leaving env e) (fun _ s'' => Q (.error e) s'') (fun e' s'' => Q (.error e') s'') s') s₁) :
    codeAny (MM w) A (.call (.ref a) ⟨vals, []⟩) Q s := by
  subst hnm
  simp only [Bool.and_eq_true, Bool.not_eq_true', beq_iff_eq] at hco
  refine codeAny_call_function R (W.k a _ ho.1 ho.2) rfl hco.1.1 hco.1.2 hbody (W.code hcd) (hbind _ _ _ _ ?_)
  rw [hclo]
  refine wpAny_newFunctionEnv_cells hco.2 (fun x hx => ?_) fun env he s₁ x => ?_
  · have := List.all_eq_true.mp hkind x hx
    simp only [Bool.or_eq_true, Bool.and_eq_true, beq_iff_eq] at this
    exact this
  · subst he
    refine ⟨W.nolimit.keeps x.toInCall.keep, codeAny_func ?_⟩
    obtain ⟨⟨hs, hns, hkeep, hfr⟩, hcell, hap, hab⟩ := x
    obtain ⟨h', tk, rfl⟩ := hs
    have hsz : s.heap.objs.size ≤ h'.objs.size := Nat.le_trans hfr (Nat.le_of_lt (Heap.Ns.lt hns))
    have hce : ∀ x, fd.scope.names.lookup x = some .cell → (((callEnvC fd s.heap.objs.size a).cells).lookup x).isSome = true := fun x hx => cellsFrom_some _ _ _ (.inl hx)
    have hnd' : ((callEnvC fd s.heap.objs.size a).cells.map (·.1)).Nodup := by rw [show (callEnvC fd s.heap.objs.size a).cells = cellsFrom (s.heap.objs.size + 1) fd.scope.names [] from rfl, cells_names _ _ 0 _ [] rfl]; exact hcn
    exact h _ _ rfl ⟨rfl, hgl, hce, hnd', W, .of_keep hkeep hsz, hfr, ⟨_, _, hns, hcell, fun x v e => ⟨bindL_of (callEnvC fd s.heap.objs.size a).kindOf _ _ _ _ hnd e, bindC_of (callEnvC fd s.heap.objs.size a).kindOf _ _ _ _ hnd e⟩⟩, hap, fun x c hx => Nat.ne_of_lt (hab x c hx),
        fun x c hx => (hcell x c (lookup_of_mem hnd' hx)).lt, fun _ => hab, .true _, trivial⟩
theorem callB {a : Addr} {fd : FuncData} {body : List Stmt} {vals : List Value} {binds : List (Str × Value)} {Q : Value → Shared → Prop} (names : List Str) (W : Wd w s.heap) (R : A.depth < recursionLimit) (ho : fnOk w.params a fd)
    (hcd : codeOk w.params fd.code fd.qualname = true) (hbody : fd.body = .stmts body) (hbind : BindsTo s fd ⟨vals, []⟩ binds) (hclo : fd.closure = [])
    (hkind : binds.all (fun x => fd.scope.names.lookup x.1 == some .local || (fd.scope.names.lookup x.1 == some .cell && ((cellsFrom (s.heap.objs.size + 1) fd.scope.names []).lookup x.1).isSome)) = true)
    (hnm : binds.map (·.1) = names) (hnd : names.Nodup) (hcn : ((cellsFrom 0 fd.scope.names []).map (·.1)).Nodup)
    (hco : (!fd.scope.isCoroutine && !fd.scope.isGenerator && fd.scope.kind == .function) = true)
    (hgl : fd.globals = mainGlobals ∧ fd.builtins = builtinsNs)
    (h : ∀ s₁ env, env = callEnvC fd s.heap.objs.size a → Fm w s true fd.scope env s₁ binds (fun _ => True) → wpAny (MM w) (A.deeper env) (execs body env) (KRet Q) (fun _ _ => False) s₁) :
    wpAny (MM w) A (call (.ref a) vals) Q E s :=
  wpAny_call (codeG names W R ho hcd hbody hbind hclo hkind hnm hnd hcn hco hgl fun s₁ env he F => wpAny_mono (h s₁ env he F) (fun _ _ y => y) fun _ _ y => y.elim)

theorem callF {a : Addr} {fd : FuncData} {body : List Stmt} {vals : List Value} {binds : List (Str × Value)} {Q : Value → Shared → Prop} (names : List Str) (W : Wd w s.heap) (R : A.depth < recursionLimit) (ho : fnOk w.params a fd)
    (hcd : codeOk w.params fd.code fd.qualname = true) (hbody : fd.body = .stmts body) (hbind : bindArgs fd ⟨vals, []⟩ = pure binds) (hclo : fd.closure = [])
    (hkind : binds.all (fun x => fd.scope.names.lookup x.1 == some .local || (fd.scope.names.lookup x.1 == some .cell && ((cellsFrom (s.heap.objs.size + 1) fd.scope.names []).lookup x.1).isSome)) = true)
    (hnm : binds.map (·.1) = names) (hnd : names.Nodup) (hcn : ((cellsFrom 0 fd.scope.names []).map (·.1)).Nodup)
    (hco : (!fd.scope.isCoroutine && !fd.scope.isGenerator && fd.scope.kind == .function) = true)
    (hgl : fd.globals = mainGlobals ∧ fd.builtins = builtinsNs)
    (h : ∀ s₁ env, env = callEnvC fd s.heap.objs.size a → Fm w s true fd.scope env s₁ binds (fun _ => True) → wpAny (MM w) (A.deeper env) (execs body env) (KRet Q) (fun _ _ => False) s₁) :
    wpAny (MM w) A (call (.ref a) vals) Q E s :=
  callB names W R ho hcd hbody (.of_eq hbind) hclo hkind hnm hnd hcn hco hgl h

theorem lkp_name {x : Str} {pos : Pos} {v : Value} {Q : Value → Shared → Prop} (F : Fm w g o sc env s l P) (hv : lkp l x = some v) (h : Q v s)
    (hk : (sc.kind == .function && (sc.names.lookup x == some .local || sc.names.lookup x == some .cell) && !(x == ("__debug__" : Str))) = true) :
    wpAny (MM w) A (eval (.Name x pos) env) Q E s := by
  obtain ⟨m, cm, h1, h2, h3⟩ := F.fr
  simp only [Bool.and_eq_true, Bool.or_eq_true, beq_iff_eq, Bool.not_eq_true'] at hk
  obtain ⟨⟨hk, h4⟩, hd⟩ := hk
  have hk' : env.scope.kind = .function := by rw [F.hsc]; exact hk
  have hkd : ∀ k, sc.names.lookup x = some k → env.kindOf x = some k := fun k e => by show env.scope.names.lookup x = _; rw [F.hsc]; exact e
  refine wpAny_Name ?_ hd
  rcases h4 with h4 | h4
  · exact wpAny_loadName_local hk' (hkd _ h4) h1 ((h3 x v hv).1 h4) h
  · obtain ⟨c, hc⟩ := Option.isSome_iff_exists.mp (F.ce x h4)
    exact wpAny_loadName_cell hk' (hkd _ h4) hc (by have := h2 x c hc; rw [(h3 x v hv).2 h4] at this; exact this) h

theorem name_glob {x : Str} {pos : Pos} {v : Value} {Q : Value → Shared → Prop} (F : Fm w g o sc env s l P) (hv : glob w.params x = some v) (h : Q v s)
    (hk : (sc.kind == .function && sc.names.lookup x == some .globalImplicit && !(x == ("__debug__" : Str))) = true) :
    wpAny (MM w) A (eval (.Name x pos) env) Q E s := by
  simp only [Bool.and_eq_true, beq_iff_eq, Bool.not_eq_true'] at hk
  exact Calls.Name_function_global (by rw [F.hsc]; exact hk.1.1) (by show env.scope.names.lookup x = _; rw [F.hsc]; exact hk.1.2) (Calls.loadGlobal_global (by rw [F.gb.1]; exact F.Wd.g) hv h) hk.2
theorem name_boot {x : Str} {pos : Pos} {v : Value} {Q : Value → Shared → Prop} (F : Fm w g o sc env s l P) (hv : bootBuiltins x = some v) (h : Q v s)
    (hg : (glob w.params x).isNone = true) (hk : (sc.kind == .function && sc.names.lookup x == some .globalImplicit && x != "__name__" && !(x == ("__debug__" : Str))) = true) :
    wpAny (MM w) A (eval (.Name x pos) env) Q E s := by
  simp only [Bool.and_eq_true, beq_iff_eq, bne_iff_ne, ne_eq, Bool.not_eq_true'] at hk
  obtain ⟨mb, hb, hm⟩ := F.Wd.b
  exact Calls.Name_function_global (by rw [F.hsc]; exact hk.1.1.1) (by show env.scope.names.lookup x = _; rw [F.hsc]; exact hk.1.1.2)
    (Calls.loadGlobal_builtin (by rw [F.gb.1]; exact F.Wd.g) (by simpa using hg) (by rw [F.gb.2]; exact hb) ((hm x hk.1.2).trans hv) h) hk.2

theorem storeV {x : Str} {v : Value} {Q : Unit → Shared → Prop} (F : Fm w g o sc env s l P) (h : ∀ s', Fm w g o sc env s' ((x, v) :: l) P → Q () s')
    (hk : (sc.kind == .function && (sc.names.lookup x == some .local || (o && sc.names.lookup x == some .cell))) = true) :
    wpAny (MM w) A (storeName env x v) Q E s := by
  obtain ⟨m, cm, h1, h2, h3⟩ := F.fr
  simp only [Bool.and_eq_true, Bool.or_eq_true, beq_iff_eq] at hk
  obtain ⟨hk, h4⟩ := hk
  have hk' : env.scope.kind = .function := by rw [F.hsc]; exact hk
  have hkd : ∀ k, sc.names.lookup x = some k → env.kindOf x = some k := fun k e => by show env.scope.names.lookup x = _; rw [F.hsc]; exact e
  rcases h4 with h4 | ⟨hfn, h4⟩
  · refine wpAny_storeName_local (hkd _ h4) h1 (fun h' hn hs => h _ ⟨F.hsc, F.gb, F.ce, F.nd, F.wd, ?_, F.fresh, ⟨_, cm, hn, fun y c e => (h2 y c e).sameBut hs (F.ne y c (mem_of_lookup e)).symm, fun y u e => ⟨fun hy => ?_, fun hy => ?_⟩⟩, F.apart, F.ne,
      fun y c hy => by show c < h'.objs.size; rw [hs.1]; exact F.lt y c hy, F.own, F.stb, ?_⟩) (by rw [hk']; rfl)
    · refine ⟨fun b ob e t => ?_, by show _ ≤ h'.objs.size; rw [hs.1]; exact F.gw.size, F.gw.os, F.gw.gens, fun x => (F.gw.tab x).but hs.extBut (Nat.ne_of_lt (Nat.lt_of_lt_of_le (Nat.lt_trans (by decide) x.lt) F.fresh)) (Nat.ne_of_lt (Nat.lt_of_lt_of_le x.lt F.fresh))⟩
      exact hs.extBut b ob (Nat.ne_of_lt (Nat.lt_of_lt_of_le (Heap.lt_size e) F.fresh)) (F.gw.keep b ob e t)
    · unfold lkp at e
      by_cases hyx : y = x
      · rw [if_pos hyx] at e ⊢; exact e
      · rw [if_neg hyx] at e ⊢; exact (h3 y u e).1 hy
    · unfold lkp at e
      by_cases hyx : y = x
      · subst hyx; rw [h4] at hy; cases hy
      · rw [if_neg hyx] at e; exact (h3 y u e).2 hy
    · exact F.stb _ _ (fun b ob off e _ => hs.extBut b ob off.1 e) F.pins
  · obtain ⟨c, hc⟩ := Option.isSome_iff_exists.mp (F.ce x h4)
    have hmem := mem_of_lookup hc
    refine wpAny_storeName_cell hk' (hkd _ h4) hc (h2 x c hc) (fun h' hn hs => ?_)
    have hcg : g.heap.objs.size ≤ c := Nat.le_trans F.fresh (Nat.le_of_lt (F.own hfn x c hmem))
    refine h _ ⟨F.hsc, F.gb, F.ce, F.nd, F.wd, ?_, F.fresh, ⟨m, fun y => if y = x then some v else cm y, h1.sameBut hs (F.ne x c hmem), fun y c' e => ?_, fun y u e => ⟨fun hy => ?_, fun hy => ?_⟩⟩, F.apart, F.ne,
      fun y c hy => by show c < h'.objs.size; rw [hs.1]; exact F.lt y c hy, F.own, F.stb, ?_⟩
    · refine ⟨fun b ob e t => ?_, by show _ ≤ h'.objs.size; rw [hs.1]; exact F.gw.size, F.gw.os, F.gw.gens, fun x => (F.gw.tab x).but hs.extBut (Nat.ne_of_lt (Nat.lt_of_lt_of_le (Nat.lt_trans (by decide) x.lt) hcg)) (Nat.ne_of_lt (Nat.lt_of_lt_of_le x.lt hcg))⟩
      exact hs.extBut b ob (Nat.ne_of_lt (Nat.lt_of_lt_of_le (Heap.lt_size e) hcg)) (F.gw.keep b ob e t)
    · show h'.IsCell c' (if y = x then some v else cm y)
      by_cases hyx : y = x
      · subst hyx; rw [hc] at e; cases e; rw [if_pos rfl]; exact hn
      · rw [if_neg hyx]
        refine (h2 y c' e).sameBut hs fun hcc => hyx ?_
        subst hcc
        exact name_of_addr F.apart (mem_of_lookup e) hmem
    · unfold lkp at e
      by_cases hyx : y = x
      · subst hyx; rw [h4] at hy; cases hy
      · rw [if_neg hyx] at e; exact (h3 y u e).1 hy
    · unfold lkp at e
      by_cases hyx : y = x
      · rw [if_pos hyx] at e; simpa [hyx] using e
      · rw [if_neg hyx] at e; simpa [hyx] using (h3 y u e).2 hy
    · exact F.stb _ _ (fun b ob off e _ => hs.extBut b ob (off.2 x c hmem) e) F.pins

/-! ## the syntax, with named ways on -/
noncomputable abbrev KThen (w : World) (A : Around) (env : Env) (rest : List Stmt) (E : Value → Shared → Prop) (Q : Flow → Shared → Prop) : Flow → Shared → Prop := fun f s' => match f with | .next => wpAny (MM w) A (execs rest env) Q E s' | f => Q f s'
noncomputable abbrev KStore (w : World) (A : Around) (env : Env) (x : Str) (E : Value → Shared → Prop) (Q : Flow → Shared → Prop) : Value → Shared → Prop := fun v s₁ => wpAny (MM w) A (storeName env x v) (fun _ => Q .next) E s₁
noncomputable abbrev KOut (Q : Flow → Shared → Prop) : Value → Shared → Prop := fun v => Q (.ret v)
noncomputable abbrev KIf (w : World) (A : Around) (env : Env) (a b : List Stmt) (E : Value → Shared → Prop) (Q : Flow → Shared → Prop) : Bool → Shared → Prop := fun c s₂ => if c then wpAny (MM w) A (execs a env) Q E s₂ else wpAny (MM w) A (execs b env) Q E s₂
noncomputable abbrev KOp (w : World) (A : Around) (op : Operator) (E : Value → Shared → Prop) (Q : Value → Shared → Prop) (a : Value) : Value → Shared → Prop := fun b s₂ => wpAny (MM w) A (binaryOp op a b) Q E s₂
noncomputable abbrev KBin (w : World) (A : Around) (env : Env) (op : Operator) (r : Expr) (E : Value → Shared → Prop) (Q : Value → Shared → Prop) : Value → Shared → Prop := fun a s₁ => wpAny (MM w) A (eval r env) (KOp w A op E Q a) E s₁
noncomputable abbrev KCo (w : World) (A : Around) (op : CmpOp) (E : Value → Shared → Prop) (Q : Value → Shared → Prop) (a : Value) : Value → Shared → Prop := fun b s₂ => wpAny (MM w) A (compareOp op a b) Q E s₂
noncomputable abbrev KCmp (w : World) (A : Around) (env : Env) (op : CmpOp) (r : Expr) (E : Value → Shared → Prop) (Q : Value → Shared → Prop) : Value → Shared → Prop := fun a s₁ => wpAny (MM w) A (eval r env) (KCo w A op E Q a) E s₁
noncomputable abbrev KTr (w : World) (A : Around) (E : Value → Shared → Prop) (Q : Bool → Shared → Prop) : Value → Shared → Prop := fun c s₃ => wpAny (MM w) A (truthy c) Q E s₃
noncomputable abbrev KIt (Q : List Value → Shared → Prop) (v : Value) : List Value → Shared → Prop := fun vs s₂ => Q (v :: vs) s₂
noncomputable abbrev KIts (w : World) (A : Around) (env : Env) (pos : Pos) (rest : List Expr) (E : Value → Shared → Prop) (Q : List Value → Shared → Prop) : Value → Shared → Prop := fun v s₁ => wpAny (MM w) A (spliced (backTo pos (starEach rest env))) (KIt Q v) E s₁

theorem e_cons {st : Stmt} {rest : List Stmt} {Q : Flow → Shared → Prop} (h : wpAny (MM w) A (exec st env) (KThen w A env rest E Q) E s) : wpAny (MM w) A (execs (st :: rest) env) Q E s := wpAny_execs_cons h
theorem e_nil {Q : Flow → Shared → Prop} (h : Q .next s) : wpAny (MM w) A (execs [] env) Q E s := wpAny_execs_nil h
theorem e_assign {x : Str} {p pos : Pos} {value : Expr} {Q : Flow → Shared → Prop} (h : wpAny (MM w) A (eval value env) (KStore w A env x E Q) E s)
    (hs : swapsWith value (some (.Name x p)) pos.line env = pure false) : wpAny (MM w) A (exec (.Assign [.Name x p] value pos) env) Q E s := wpAny_Assign_Name h hs
theorem e_ret {e : Expr} {pos : Pos} {Q : Flow → Shared → Prop} (h : wpAny (MM w) A (eval e env) (KOut Q) E s) : wpAny (MM w) A (exec (.Return (some e) pos) env) Q E s := wpAny_Return_some h
theorem e_if {test : Expr} {a b : List Stmt} {pos : Pos} {Q : Flow → Shared → Prop} (h : wpAny (MM w) A (isTrue test env (eval test env)) (KIf w A env a b E Q) E s) : wpAny (MM w) A (exec (.If test a b pos) env) Q E s := wpAny_If h
theorem if_t {a b : List Stmt} {Q : Flow → Shared → Prop} {c : Bool} (hc : c = true) (h : wpAny (MM w) A (execs a env) Q E s) : KIf w A env a b E Q c s := by subst hc; exact h
theorem if_f {a b : List Stmt} {Q : Flow → Shared → Prop} {c : Bool} (hc : c = false) (h : wpAny (MM w) A (execs b env) Q E s) : KIf w A env a b E Q c s := by subst hc; exact h
theorem t_cmp {a r : Expr} {op : CmpOp} {pos : Pos} {wh : Sem Value} {Q : Bool → Shared → Prop} (h : wpAny (MM w) A (eval a env) (KCmp w A env op r E (KTr w A E Q)) E s) (hm : behindInMarks op r = false) :
    wpAny (MM w) A (isTrue (.Compare a [op] [r] pos) env wh) Q E s := wpAny_isTrue_Compare1 h hm
theorem v_cmp {a r : Expr} {op : CmpOp} {pos : Pos} {Q : Value → Shared → Prop} (h : wpAny (MM w) A (eval a env) (KCmp w A env op r E Q) E s) (hm : behindInMarks op r = false) :
    wpAny (MM w) A (eval (.Compare a [op] [r] pos) env) Q E s := wpAny_Compare1 h hm
theorem v_bin {a r : Expr} {op : Operator} {pos : Pos} {Q : Value → Shared → Prop} (h : wpAny (MM w) A (eval a env) (KBin w A env op r E Q) E s) : wpAny (MM w) A (eval (.BinOp a op r pos) env) Q E s := wpAny_BinOp h
theorem i_cons {pos : Pos} {e : Expr} {rest : List Expr} {Q : List Value → Shared → Prop} (h : wpAny (MM w) A (eval e env) (KIts w A env pos rest E Q) E s)
    (he : starEach (e :: rest) env = (false, eval e env) :: starEach rest env) : wpAny (MM w) A (spliced (backTo pos (starEach (e :: rest) env))) Q E s := wpAny_items_cons h he
theorem i_nil {pos : Pos} {Q : List Value → Shared → Prop} (h : Q [] s) : wpAny (MM w) A (spliced (backTo pos (starEach [] env))) Q E s := wpAny_items_nil h
end
end Mine
namespace Mine
set_option maxRecDepth 100000
open PySem PySem.W PyProof.Rows

noncomputable def tx (xs : List Nat) : Str := ⟨xs.toArray⟩
theorem tx_len (xs : List Nat) : (tx xs).length = xs.length := by simp [tx, Str.length]
theorem tx_app (xs ys : List Nat) : tx xs ++ tx ys = tx (xs ++ ys) := by
  show Str.mk _ = _
  simp [tx]
theorem tx_inj {xs ys : List Nat} (h : tx xs = tx ys) : xs = ys := by simpa [tx] using h
theorem tx_cps (xs : List Nat) : (tx xs).cps.toList = xs := by simp [tx]

/-- a list of the heap -/
noncomputable def Ls (a : Addr) (vs : List Value) (h : Heap) : Prop := h.IsList a vs.toArray
theorem Ls.isList {a : Addr} {vs : List Value} {h : Heap} (x : Ls a vs h) : h.IsList a vs.toArray := x
theorem Ls.at {a : Addr} {vs : List Value} {h h' : Heap} (x : Ls a vs h) (k : ∀ o, h.get? a = some o → (Tb o → a ≠ 103) → h'.get? a = some o) : Ls a vs h' :=
  let ⟨o, e, c, r⟩ := x; ⟨o, k o e fun t => absurd t (notTb_of_cls (by rw [c]; exact fun e => nomatch e)), c, r⟩
theorem Ls.new {a : Addr} {vs : List Value} {h : Heap} {n : Nat} {d : Option Addr} {sl : Array (Option Value)} (e : h.get? a = some { cls := .type "list", dict := d, data := .seq vs.toArray n, slots := sl }) : Ls a vs h := ⟨_, e, rfl, n, rfl⟩
theorem Ls.gw {a : Addr} {vs : List Value} {s s' : Shared} (x : Ls a vs s.heap) (G : Gw s s') : Ls a vs s'.heap := x.at fun _ e t => G.keep _ _ e t
theorem Ls.lt {a : Addr} {vs : List Value} {h : Heap} (x : Ls a vs h) : a < h.objs.size := let ⟨_, e, _⟩ := x; Heap.lt_size e
theorem stb_ls {env : Env} {a : Addr} (vs : List Value) (h : offE env a) : Stb env (Ls a vs) := fun _ _ k x => x.at fun o e t => k a o h e t

/-- a list without a dict of its own -/
noncomputable def LN (a : Addr) (vs : List Value) (h : Heap) : Prop := h.PlainList a vs.toArray
theorem LN.ls {a : Addr} {vs : List Value} {h : Heap} (x : LN a vs h) : Ls a vs h := x.isList
theorem LN.at {a : Addr} {vs : List Value} {h h' : Heap} (x : LN a vs h) (k : ∀ o, h.get? a = some o → (Tb o → a ≠ 103) → h'.get? a = some o) : LN a vs h' :=
  let ⟨n, e⟩ := x; ⟨n, k _ e fun t => absurd t (notTb_of_cls fun e => nomatch e)⟩
theorem stb_ln {env : Env} {a : Addr} {vs : List Value} (h : offE env a) : Stb env (LN a vs) := fun _ _ k x => x.at fun o e t => k a o h e t

noncomputable def intV (ts : List (Int × Tok)) : List Value := ts.map fun p => .int p.1 p.2
/-- an address that holds a list of ints; of texts -/
noncomputable def Ints (a : Addr) (ns : List Int) (h : Heap) : Prop := ∃ ts : List (Int × Tok), Ls a (intV ts) h ∧ ts.map (·.1) = ns
noncomputable def Strs (a : Addr) (xs : List (List Nat)) (h : Heap) : Prop := ∃ ts : List (List Nat × Tok), Ls a (ts.map fun p => .str (tx p.1) p.2) h ∧ ts.map (·.1) = xs
theorem Ints.gw {a : Addr} {ns : List Int} {s s' : Shared} (x : Ints a ns s.heap) (G : Gw s s') : Ints a ns s'.heap := let ⟨ts, e, r⟩ := x; ⟨ts, e.gw G, r⟩
theorem Strs.gw {a : Addr} {xs : List (List Nat)} {s s' : Shared} (x : Strs a xs s.heap) (G : Gw s s') : Strs a xs s'.heap := let ⟨ts, e, r⟩ := x; ⟨ts, e.gw G, r⟩
theorem Ints.lt {a : Addr} {ns : List Int} {h : Heap} (x : Ints a ns h) : a < h.objs.size := let ⟨_, e, _⟩ := x; e.lt
theorem Strs.lt {a : Addr} {xs : List (List Nat)} {h : Heap} (x : Strs a xs h) : a < h.objs.size := let ⟨_, e, _⟩ := x; e.lt
theorem stb_ints {env : Env} {a : Addr} (ns : List Int) (h : offE env a) : Stb env (Ints a ns) := fun h₁ h₂ k x => let ⟨ts, e, r⟩ := x; ⟨ts, stb_ls _ h h₁ h₂ k e, r⟩
theorem stb_strs {env : Env} {a : Addr} (xs : List (List Nat)) (h : offE env a) : Stb env (Strs a xs) := fun h₁ h₂ k x => let ⟨ts, e, r⟩ := x; ⟨ts, stb_ls _ h h₁ h₂ k e, r⟩

/-- a list of texts without a dict of its own -/
noncomputable def SN (a : Addr) (xs : List (List Nat)) (h : Heap) : Prop := ∃ ts : List (List Nat × Tok), LN a (ts.map fun p => .str (tx p.1) p.2) h ∧ ts.map (·.1) = xs
theorem SN.strs {a : Addr} {xs : List (List Nat)} {h : Heap} (x : SN a xs h) : Strs a xs h := let ⟨ts, e, r⟩ := x; ⟨ts, e.ls, r⟩
theorem SN.at {a : Addr} {xs : List (List Nat)} {h h' : Heap} (x : SN a xs h) (k : ∀ o, h.get? a = some o → (Tb o → a ≠ 103) → h'.get? a = some o) : SN a xs h' := let ⟨ts, e, r⟩ := x; ⟨ts, e.at k, r⟩
theorem stb_sn {env : Env} {a : Addr} {xs : List (List Nat)} (h : offE env a) : Stb env (SN a xs) := fun _ _ k x => x.at fun o e t => k a o h e t
section
variable {w : World} {A : Around} {E : Value → Shared → Prop} {s : Shared} {g : Shared} {o : Bool} {sc : Scope} {env : Env} {l : List (Str × Value)} {P : Heap → Prop}

theorem r_int {i : Int} {k : Nat} {pos : Pos} {Q : Value → Shared → Prop} (F : Fm w g o sc env s l P) (h : ∀ t s', Fm w g o sc env s' l P → Q (.int i t) s') : wpAny (MM w) A (eval (.Constant (.int i) k pos) env) Q E s :=
  wpAny_Constant_int (h _ _ (F.tok _))
theorem r_str {x : Str} {xs : List Nat} {k : Nat} {pos : Pos} {Q : Value → Shared → Prop} (hx : x = tx xs) (F : Fm w g o sc env s l P) (h : ∀ t s', Fm w g o sc env s' l P → Q (.str (tx xs) t) s') : wpAny (MM w) A (eval (.Constant (.str x) k pos) env) Q E s := by
  subst hx; exact wpAny_Constant_str (h _ _ (F.tok _))
noncomputable abbrev KList (w : World) (env : Env) (Q : Value → Shared → Prop) : List Value → Shared → Prop := fun vs s₁ => vs.length ≤ sizeLine ∧ ∃ g o sc l P, Fm w g o sc env s₁ l P ∧ ∀ a s', s₁.heap.objs.size ≤ a → offE env a → Fm w g o sc env s' l (fun h => Ls a vs h ∧ P h) → Q (.ref a) s'
theorem r_list {elts : List Expr} {pos : Pos} {Q : Value → Shared → Prop}
    (h : wpAny (MM w) A (spliced (backTo pos (starEach elts env))) (KList w env Q) E s) : wpAny (MM w) A (eval (.List elts pos) env) Q E s :=
  wpAny_List (wpAny_mono h (fun vs s₁ ⟨h1, g, o, sc, l, P, F, h2⟩ => ⟨h1, h2 _ _ (Nat.le_refl _) (F.off (Nat.le_refl _))
    ((F.push _ s₁.toks).pin (stb_ls _ (F.off (Nat.le_refl _))) (.new (Heap.get?_push_size _ rfl)))⟩) fun _ _ e => e)

theorem sub_false (slice : Expr) (o i : Value) : ∃ ops, subscripted slice false o i = operate ops (getItem o i) := by
  unfold subscripted
  split
  · exact ⟨_, rfl⟩
  · rename_i h; cases h
  · exact ⟨_, rfl⟩
noncomputable abbrev KItem (w : World) (A : Around) (E : Value → Shared → Prop) (Q : Value → Shared → Prop) (o : Value) : Value → Shared → Prop := fun i s₂ => (∃ T id, s₂.TypeIs o T ∧ typeLookup (.type T) "__getitem__" = pure (some (.builtin id))) ∧ wpAny (MM w) A (getItem o i) Q E s₂
noncomputable abbrev KSub (w : World) (A : Around) (env : Env) (slice : Expr) (E : Value → Shared → Prop) (Q : Value → Shared → Prop) : Value → Shared → Prop := fun o s₁ => wpAny (MM w) A (eval slice env) (KItem w A E Q o) E s₁
theorem r_sub {value slice : Expr} {pos : Pos} {Q : Value → Shared → Prop}
    (h : wpAny (MM w) A (eval value env) (KSub w A env slice E Q) E s) :
    wpAny (MM w) A (eval (.Subscript value slice pos) env) Q E s := by
  refine Subscript_ (wpAny_mono h (fun o s₁ h₁ => wpAny_mono h₁ (fun i s₂ h₂ => ?_) fun _ _ e => e) fun _ _ e => e)
  obtain ⟨⟨T, id, hT, hl⟩, h₂⟩ := h₂
  unfold subscriptTail
  refine wpAny_bind ?_
  rw [getitemInPython_of_ne hT.not_modules]
  refine wpAny_bind (wpAny_specialOf hT hl ?_)
  obtain ⟨ops, hs⟩ := sub_false slice o i
  have fin : wpAny (MM w) A (subscripted slice false o i) (fun r s₃ => wpAny (MM w) A (letTemporaryGo value o r >>= fun _ => pure r) Q E s₃) E s₂ := by
    rw [hs]
    exact wpAny_operating (wpAny_mono h₂ (fun r s₃ h₃ => wpAny_bind (wpAny_letTemporaryGo (wpAny_pure h₃))) fun _ _ x => x)
  first
    | exact wpAny_pure (wpAny_bind fin)
    | exact wpAny_bind (wpAny_pure (wpAny_bind fin))
    | exact wpAny_bind fin

theorem sub_list {a : Addr} {vs : List Value} {i : Value} {Q : Value → Shared → Prop} (hl : Ls a vs s.heap) (h : wpAny (MM w) A (getItem (.ref a) i) Q E s) :
    (∃ T id, s.TypeIs (.ref a) T ∧ typeLookup (.type T) "__getitem__" = pure (some (.builtin id))) ∧ wpAny (MM w) A (getItem (.ref a) i) Q E s :=
  ⟨⟨_, _, hl.isList.typeIs, slot_list_getitem.lookup⟩, h⟩
theorem sub_str {x : Str} {t : Tok} {i : Value} {Q : Value → Shared → Prop} (h : wpAny (MM w) A (getItem (.str x t) i) Q E s) :
    (∃ T id, s.TypeIs (.str x t) T ∧ typeLookup (.type T) "__getitem__" = pure (some (.builtin id))) ∧ wpAny (MM w) A (getItem (.str x t) i) Q E s :=
  ⟨⟨_, _, typeIs_str s x t, PySem.F.slot_str_getitem.lookup⟩, h⟩

theorem item_ls {a : Addr} {vs : List Value} {k : Nat} {i : Int} {t : Tok} {v : Value} {Q : Value → Shared → Prop} (hl : Ls a vs s.heap) (hi : i = k) (hk : k < 2 ^ 63) (hv : vs[k]? = some v) (h : Q v s) :
    wpAny (MM w) A (getItem (.ref a) (.int i t)) Q E s :=
  wpAny_getItem_list hl.isList (by omega) (by omega) (by subst hi; simpa using hv) h
theorem item_ints {a : Addr} {ns : List Int} {k : Nat} {i : Int} {t : Tok} {m : Int} {Q : Value → Shared → Prop} (hl : Ints a ns s.heap) (hi : i = k) (hk : k < 2 ^ 63) (hv : ns[k]? = some m) (h : ∀ t, Q (.int m t) s) :
    wpAny (MM w) A (getItem (.ref a) (.int i t)) Q E s := by
  obtain ⟨ts, hl, rfl⟩ := hl
  rw [List.getElem?_map] at hv
  obtain ⟨⟨m', t'⟩, e, rfl⟩ := Option.map_eq_some_iff.mp hv
  exact item_ls (v := .int m' t') hl hi hk (by simp [intV, e]) (h _)
theorem item_strs {a : Addr} {xs : List (List Nat)} {k : Nat} {i : Int} {t : Tok} {x : List Nat} {Q : Value → Shared → Prop} (hl : Strs a xs s.heap) (hi : i = k) (hk : k < 2 ^ 63) (hv : xs[k]? = some x) (h : ∀ t, Q (.str (tx x) t) s) :
    wpAny (MM w) A (getItem (.ref a) (.int i t)) Q E s := by
  obtain ⟨ts, hl, rfl⟩ := hl
  rw [List.getElem?_map] at hv
  obtain ⟨⟨m', t'⟩, e, rfl⟩ := Option.map_eq_some_iff.mp hv
  exact item_ls (v := .str (tx m') t') hl hi hk (by simp [e]) (h _)
theorem item_tx {xs : List Nat} {k : Nat} {i : Int} {t u : Tok} {c : Nat} {Q : Value → Shared → Prop} (F : Fm w g o sc env s l P) (hi : i = k) (hk : k < 2 ^ 63) (hv : xs[k]? = some c) (h : ∀ t s', Fm w g o sc env s' l P → Q (.str (tx [c]) t) s') :
    wpAny (MM w) A (getItem (.str (tx xs) t) (.int i u)) Q E s := by
  obtain ⟨hlt, hc⟩ := List.getElem?_eq_some_iff.mp hv
  refine getItem_str (c := c) ?_ ?_ ?_
  · subst hi
    simp only [Bool.or_eq_false_iff, decide_eq_false_iff_not]
    omega
  · subst hi
    have : seqIndex? (k : Int) (tx xs).length = some k := by
      unfold seqIndex?
      rw [tx_len]
      simp; omega
    rw [this]
    show (tx xs).cps[k]? = some c
    simpa [tx] using hv
  · exact h _ _ (F.tok _)

theorem len_ls {a : Addr} {vs : List Value} {Q : Value → Shared → Prop} (F : Fm w g o sc env s l P) (hl : Ls a vs s.heap) (hs : vs.length < 2 ^ 63) (h : ∀ t s', Fm w g o sc env s' l P → Q (.int vs.length t) s') :
    wpAny (MM w) A (call (.builtin "len") [.ref a]) Q E s :=
  Calls.call_len_list hl.isList (by simp; omega) (by simpa using h _ _ (F.tok _))
theorem len_tx {xs : List Nat} {t : Tok} {Q : Value → Shared → Prop} (F : Fm w g o sc env s l P) (hs : xs.length < 2 ^ 63) (h : ∀ t s', Fm w g o sc env s' l P → Q (.int xs.length t) s') :
    wpAny (MM w) A (call (.builtin "len") [.str (tx xs) t]) Q E s :=
  len_str (by rw [tx_len]; omega) (by rw [tx_len]; exact h _ _ (F.tok _))

/-- calls -/
noncomputable abbrev KCall (w : World) (A : Around) (pos : Pos) (items : List (Bool × Sem Value)) (E : Value → Shared → Prop) (Q : Value → Shared → Prop) : Value → Shared → Prop := fun f s₁ => wpAny (MM w) A (callWith pos f [] items []) Q E s₁
noncomputable abbrev KB (w : World) (A : Around) (id : String) (first : List Value) (E : Value → Shared → Prop) (Q : Value → Shared → Prop) : List Value → Shared → Prop := fun vs s₁ => wpAny (MM w) A (call (.builtin id) (first ++ vs)) Q E s₁
noncomputable abbrev KF (w : World) (A : Around) (a : Addr) (E : Value → Shared → Prop) (Q : Value → Shared → Prop) : List Value → Shared → Prop := fun vs s₁ => Wd w s₁.heap ∧ wpAny (MM w) A (call (.ref a) vs) Q E s₁
theorem r_call {x : Str} {p pos : Pos} {e : Expr} {rest : List Expr} {Q : Value → Shared → Prop}
    (h : wpAny (MM w) A (eval (.Name x p) env) (KCall w A pos (backTo pos (starEach (e :: rest) env)) E Q) E s) :
    wpAny (MM w) A (eval (.Call (.Name x p) (e :: rest) [] pos) env) Q E s := by
  show wpAny (MM w) A (eval (.Name x p) env >>= fun f => callWith pos f [] (backTo pos (starEach (e :: rest) env)) []) Q E s
  exact wpAny_bind h
theorem cw_builtin {pos : Pos} {id : String} {first : List Value} {e : Expr} {rest : List Expr} {Q : Value → Shared → Prop}
    (h : wpAny (MM w) A (spliced (backTo pos (starEach (e :: rest) env))) (KB w A id first E Q) E s)
    (he : starEach (e :: rest) env = (false, eval e env) :: starEach rest env) (hplain : (backTo pos (starEach rest env)).any (·.1) = false) :
    wpAny (MM w) A (callWith pos (.builtin id) first (backTo pos (starEach (e :: rest) env)) []) Q E s := by
  rw [he] at h ⊢
  exact Calls.callWith_builtin (by show (false || (backTo pos (starEach rest env)).any (·.1)) = false; rw [hplain]; rfl) (Calls.evalArgs_plain h)
theorem cw_fn {pos : Pos} {a : Addr} {fd : FuncData} {e : Expr} {rest : List Expr} {Q : Value → Shared → Prop} (ho : fnOk w.params a fd)
    (h : wpAny (MM w) A (spliced (backTo pos (starEach (e :: rest) env))) (KF w A a E Q) E s)
    (he : starEach (e :: rest) env = (false, eval e env) :: starEach rest env) (hplain : (backTo pos (starEach rest env)).any (·.1) = false) :
    wpAny (MM w) A (callWith pos (.ref a) [] (backTo pos (starEach (e :: rest) env)) []) Q E s := by
  rw [he] at h ⊢
  refine Calls.callWith_function (o := ⟨.type "function", none, .func fd, #[]⟩) (fd := fd) (Calls.evalArgs_plain (wpAny_mono h (fun vs s₁ h₁ => ⟨⟨h₁.1.k a _ ho.1 ho.2, rfl⟩, by simpa using h₁.2⟩) fun _ _ e => e))

theorem o_add {a b : Int} {t u : Tok} {Q : Value → Shared → Prop} (F : Fm w g o sc env s l P) (h : ∀ t s', Fm w g o sc env s' l P → Q (.int (a + b) t) s') : wpAny (MM w) A (binaryOp .Add (.int a t) (.int b u)) Q E s := add_int (h _ _ (F.tok _))
theorem o_sub {a b : Int} {t u : Tok} {Q : Value → Shared → Prop} (F : Fm w g o sc env s l P) (h : ∀ t s', Fm w g o sc env s' l P → Q (.int (a - b) t) s') : wpAny (MM w) A (binaryOp .Sub (.int a t) (.int b u)) Q E s := sub_int (h _ _ (F.tok _))
theorem o_mod {a : Int} {b : Nat} {t u : Tok} {Q : Value → Shared → Prop} (F : Fm w g o sc env s l P) (h : ∀ t s', Fm w g o sc env s' l P → Q (.int (a % ((b : Nat) : Int)) t) s') (hb : b ≠ 0) : wpAny (MM w) A (binaryOp .Mod (.int a t) (.int (b : Int) u)) Q E s :=
  mod_int (by omega) (by rw [Int.fmod_eq_emod_of_nonneg _ (by omega)]; exact h _ _ (F.tok _))
theorem o_div {a : Int} {b : Nat} {t u : Tok} {Q : Value → Shared → Prop} (F : Fm w g o sc env s l P) (h : ∀ t s', Fm w g o sc env s' l P → Q (.int (a / ((b : Nat) : Int)) t) s') (hb : b ≠ 0) (hp : Builtin.divisionGoesByPylong a (b : Int) = false) :
    wpAny (MM w) A (binaryOp .FloorDiv (.int a t) (.int (b : Int) u)) Q E s :=
  floordiv_int (by omega) (by rw [Int.fdiv_eq_ediv_of_nonneg _ (by omega)]; exact h _ _ (F.tok _)) (.inl hp)
theorem o_addS {xs ys : List Nat} {t u : Tok} {Q : Value → Shared → Prop} (F : Fm w g o sc env s l P) (hs : xs.length + ys.length ≤ sizeLine) (h : ∀ t s', Fm w g o sc env s' l P → Q (.str (tx (xs ++ ys)) t) s') : wpAny (MM w) A (binaryOp .Add (.str (tx xs) t) (.str (tx ys) u)) Q E s :=
  add_str (fun t' tk => by rw [tx_app]; exact h _ _ (F.tok _)) (by rw [tx_len, tx_len]; exact hs)
theorem bt_len : bootBuiltins "len" = some (.builtin "len") := by kernel_rfl
theorem bt_range : bootBuiltins "range" = some (.type "range") := by kernel_rfl
theorem bt_sorted : bootBuiltins "sorted" = some (.builtin "sorted") := by kernel_rfl
theorem bt_min : bootBuiltins "min" = some (.builtin "min") := by kernel_rfl
theorem bt_max : bootBuiltins "max" = some (.builtin "max") := by kernel_rfl
theorem bt_sum : bootBuiltins "sum" = some (.builtin "sum") := by kernel_rfl
theorem bt_str : bootBuiltins "str" = some (.type "str") := by kernel_rfl
theorem bt_list : bootBuiltins "list" = some (.type "list") := by kernel_rfl
theorem bt_int : bootBuiltins "int" = some (.type "int") := by kernel_rfl
theorem gl_quotedata (P : Params) : glob P "quotedata" = some (.ref 55) := by kernel_rfl
theorem gl_parse229 (P : Params) : glob P "parse229" = some (.ref 181) := by kernel_rfl
theorem gl_law_number (P : Params) : glob P "_law_number" = some (.ref 188) := by kernel_rfl
theorem gl_law_word (P : Params) : glob P "_law_word" = some (.ref 195) := by kernel_rfl
theorem gl_law_fits (P : Params) : glob P "_law_fits" = some (.ref 200) := by kernel_rfl
theorem gl_law_sent (P : Params) : glob P "_law_sent" = some (.ref 205) := by kernel_rfl
theorem gl_law_ready (P : Params) : glob P "_law_ready" = some (.ref 210) := by kernel_rfl
theorem gl_law_filled (P : Params) : glob P "_law_filled" = some (.ref 215) := by kernel_rfl
theorem gl_law_piles (P : Params) : glob P "_law_piles" = some (.ref 220) := by kernel_rfl
theorem gl_law_port (P : Params) : glob P "_law_port" = some (.ref 227) := by kernel_rfl
theorem gl_twin_re_1 (P : Params) : glob P "_twin_re_1" = some (.ref 43) := by kernel_rfl
theorem gl_twin_re_2 (P : Params) : glob P "_twin_re_2" = some (.ref 48) := by kernel_rfl
theorem gl_Accumulator (P : Params) : glob P "_Accumulator" = some (.ref 133) := by kernel_rfl
theorem gl_error_reply (P : Params) : glob P "error_reply" = some (.ref 160) := by kernel_rfl
theorem gl_error_proto (P : Params) : glob P "error_proto" = some (.ref 172) := by kernel_rfl
end
end Mine
namespace Mine
set_option maxRecDepth 100000
open PySem PySem.W PyProof.Rows

/-- neither a namespace nor a cell nor a code table -/
noncomputable def Sq (o : Obj) : Prop := ¬ Tb o ∧ (∀ es n, o.data ≠ .dict es n) ∧ ∀ v, o.data ≠ .cell v
theorem Sq.off {w : World} {g : Shared} {o : Bool} {sc : Scope} {env : Env} {s : Shared} {l : List (Str × Value)} {P : Heap → Prop} (F : Fm w g o sc env s l P) {b : Addr} {ob : Obj} (e : s.heap.get? b = some ob) (q : Sq ob) : offE env b := by
  obtain ⟨m, cm, h1, h2, _⟩ := F.fr
  refine ⟨fun hb => ?_, fun x c hx hb => ?_⟩
  · obtain ⟨ob', es, ep, e', d, _⟩ := h1
    rw [← hb, e] at e'; cases e'; exact q.2.1 _ _ d
  · obtain ⟨ob', e', d⟩ := h2 x c (lookup_of_mem F.nd hx)
    rw [← hb, e] at e'; cases e'; exact q.2.2 _ d

theorem Sq.ne103 {h : Heap} (T : Tab h) {b : Addr} {ob : Obj} (e : h.get? b = some ob) (q : Sq ob) : b ≠ 103 := fun hb => by
  obtain ⟨ps, _, _, e'⟩ := T
  rw [hb, e'] at e; cases e
  exact q.1 ⟨rfl, _, rfl⟩

theorem sq_fields {o : Obj} {T : String} {vs : Array Value} (c : o.cls = .type T) (d : o.data = .fields vs) : Sq o := ⟨fun t => (by rw [t.1] at c; cases c), fun _ _ e => (by rw [d] at e; cases e), fun _ e => (by rw [d] at e; cases e)⟩
theorem sq_seq {o : Obj} {T : String} {vs : Array Value} {n : Nat} (c : o.cls = .type T) (d : o.data = .seq vs n) : Sq o := ⟨fun t => (by rw [t.1] at c; cases c), fun _ _ e => (by rw [d] at e; cases e), fun _ e => (by rw [d] at e; cases e)⟩
/-- what an iteration over a value brings -/
noncomputable def Iter (w : World) (A : Around) (xv : Value) (s₁ : Shared) (cnt : Nat) (Pv : Nat → Value → Prop) : Prop :=
  ∀ (Q : Value → Shared → Prop) E, (∀ I fp wr St s₂, Walks PySem.Challenge.pw_xl0004_01 w A I fp wr cnt Pv St → St 0 s₂.heap → (∀ b ∈ fp, ∃ o, s₂.heap.get? b = some o ∧ Sq o) → (∀ b ∈ wr, s₁.heap.objs.size ≤ b) → Gw s₁ s₂ → Q (.ref I) s₂) →
    wpAny (MM w) A (pyIter xv) Q E s₁

theorem iter_ls {w : World} {A : Around} {a : Addr} {vs : List Value} {s : Shared} (hh : A.handled = none) (hl : Ls a vs s.heap) : Iter w A (.ref a) s vs.length (fun i v => vs[i]? = some v) := by
  intro Q E h
  refine wpAny_pyIter_list hl.isList ?_
  have hne : a ≠ s.heap.objs.size := Nat.ne_of_lt hl.lt
  have W := Walks.list (prog := PySem.Challenge.pw_xl0004_01) (w := w) hh s.heap.objs.size a hne vs.toArray
  simp only [List.size_toArray, List.getElem?_toArray] at W
  refine h _ _ _ _ _ W ⟨⟨_, Heap.get?_push_size _ rfl, rfl, rfl⟩, hl.isList.push _⟩ (fun b hb => ?_) (fun b hb => by simp at hb; simp [hb]) ((Gw.refl s).push _ s.toks)
  rcases List.mem_cons.mp hb with rfl | hb
  · exact ⟨_, Heap.get?_push_size _ rfl, sq_fields rfl rfl⟩
  · simp at hb; subst hb
    obtain ⟨ob, e, c, n, d⟩ := hl
    exact ⟨_, Heap.get?_push_of_some _ e, sq_seq c d⟩

theorem iter_range {w : World} {A : Around} {r : Addr} {a b : Int} {t u v : Tok} {s : Shared} (hh : A.handled = none) (hr : IsRange s.heap r a b 1 t u v) (hs : Builtin.Range.small a b 1 = true) (cnt : Nat) (hc : Builtin.Range.rangeSize a b 1 = cnt) :
    Iter w A (.ref r) s cnt (fun i v => ∃ t, v = .int (a + i) t) := by
  intro Q E h
  refine wpAny_pyIter_range hr hs ?_
  have W := Walks.range (prog := PySem.Challenge.pw_xl0004_01) (w := w) hh s.heap.objs.size a 1 cnt
  simp only [Int.mul_one] at W
  refine h _ _ _ _ _ W ?_ (fun b hb => ?_) (fun b hb => by simp at hb; simp [hb]) ((Gw.refl s).push _ s.toks)
  · show IsRangeIter _ _ (a + ((0 : Nat) : Int)) _ _
    rw [hc]
    simpa [IsRangeIter] using Heap.get?_push_size _ rfl
  · simp at hb; subst hb
    exact ⟨_, Heap.get?_push_size _ rfl, sq_fields rfl rfl⟩

theorem iter_tx {w : World} {A : Around} {xs : List Nat} {t : Tok} {s : Shared} (hh : A.handled = none) : Iter w A (.str (tx xs) t) s xs.length (fun i v => ∃ c u, xs[i]? = some c ∧ v = .str (tx [c]) u) := by
  intro Q E h
  have hP : SignAt (tx xs) = fun i v => ∃ c u, xs[i]? = some c ∧ v = .str (tx [c]) u := by
    funext i v; simp [SignAt, tx]
  have hn : (tx xs).cps.size = xs.length := by simp [tx]
  cases ha : (tx xs).cps.all (· < 128)
  · refine wpAny_pyIter_wide ha ?_
    have W := Walks.strWide (prog := PySem.Challenge.pw_xl0004_01) (w := w) hh s.heap.objs.size (tx xs) t
    rw [hP, hn] at W
    refine h _ _ _ _ _ W ⟨_, Heap.get?_push_size _ rfl, rfl, rfl⟩ (fun b hb => ?_) (fun b hb => by simp at hb; simp [hb]) ((Gw.refl s).push _ s.toks)
    simp at hb; subst hb
    exact ⟨_, Heap.get?_push_size _ rfl, sq_fields rfl rfl⟩
  · refine wpAny_pyIter_ascii ha ?_
    have W := Walks.strAscii (prog := PySem.Challenge.pw_xl0004_01) (w := w) hh s.heap.objs.size (tx xs) t
    rw [hP, hn] at W
    refine h _ _ _ _ _ W ⟨_, Heap.get?_push_size _ rfl, rfl, rfl⟩ (fun b hb => ?_) (fun b hb => by simp at hb; simp [hb]) ((Gw.refl s).push _ s.toks)
    simp at hb; subst hb
    exact ⟨_, Heap.get?_push_size _ rfl, sq_fields rfl rfl⟩

noncomputable def rlb (scope sc : Scope) : Scope :=
  { scope with names := scope.names.map fun (n, k) => if (k == .free && sc.kind == .function && sc.names.lookup n == some .cell) then (n, .cell) else (n, k) }
theorem rlb_eq {scope : Scope} {env : Env} {sc : Scope} (h : env.scope = sc) : relabel scope env = rlb scope sc := by subst h; rfl

theorem lookup_rlb_free {sc : Scope} : ∀ {names : List (Str × NameKind)} {x : Str}, names.lookup x = some .free → sc.kind = .function → sc.names.lookup x = some .cell →
    (names.map fun (n, k) => if (k == NameKind.free && sc.kind == .function && sc.names.lookup n == some .cell) then (n, NameKind.cell) else (n, k)).lookup x = some .cell
  | [], _, h, _, _ => by simp at h
  | (n, k) :: r, x, h, hk, hc => by
    have ih := @lookup_rlb_free sc r x
    show List.lookup x ((if (k == NameKind.free && sc.kind == .function && sc.names.lookup n == some .cell) = true then (n, NameKind.cell) else (n, k)) :: _) = _
    cases hx : x == n with
    | true =>
      simp only [List.lookup_cons, hx] at h
      cases h
      have hxn : x = n := eq_of_beq hx
      subst hxn
      rw [if_pos (by rw [hk, hc]; rfl)]
      simp [List.lookup_cons]
    | false =>
      simp only [List.lookup_cons, hx] at h
      split
      · simp only [List.lookup_cons, hx]; exact ih h hk hc
      · simp only [List.lookup_cons, hx]; exact ih h hk hc
theorem lookup_rlb_cell {sc : Scope} : ∀ {names : List (Str × NameKind)} {x : Str}, (∀ y ∈ names, y.2 ≠ .cell) →
    (names.map fun (n, k) => if (k == NameKind.free && sc.kind == .function && sc.names.lookup n == some .cell) then (n, NameKind.cell) else (n, k)).lookup x = some .cell → (x, .free) ∈ names ∧ sc.names.lookup x = some .cell
  | [], _, _, h => by simp at h
  | (n, k) :: r, x, hno, h => by
    have ih := @lookup_rlb_cell sc r x (fun y hy => hno y (List.mem_cons_of_mem _ hy))
    simp only [List.map_cons] at h
    split at h
    · rename_i hc
      simp only [Bool.and_eq_true, beq_iff_eq] at hc
      cases hx : x == n with
      | true =>
        have hxn : x = n := eq_of_beq hx
        subst hxn
        exact ⟨by rw [← hc.1.1]; exact List.mem_cons_self .., hc.2⟩
      | false =>
        rw [List.lookup_cons] at h
        simp only [hx] at h
        exact ⟨List.mem_cons_of_mem _ (ih h).1, (ih h).2⟩
    · cases hx : x == n with
      | true =>
        rw [List.lookup_cons] at h
        simp only [hx] at h
        cases h
        exact absurd rfl (hno _ (List.mem_cons_self ..))
      | false =>
        rw [List.lookup_cons] at h
        simp only [hx] at h
        exact ⟨List.mem_cons_of_mem _ (ih h).1, (ih h).2⟩

/-- the closure of a comprehension -/
theorem closureFor_ok {env : Env} : ∀ (names : List (Str × NameKind)) (acc : List (Str × Addr)), (names.map (·.1)).Nodup → (∀ x, (x, NameKind.free) ∈ names → (env.cells.lookup x).isSome = true) →
    (acc.map (·.1)).Nodup → (∀ x c, (x, c) ∈ acc → env.cells.lookup x = some c ∧ x ∉ names.map (·.1)) →
    ∃ cl, (forIn names acc fun (p : Str × NameKind) cs => (if p.2 == .free then do let c ← cellOf env p.1; pure (ForInStep.yield ((p.1, c) :: cs)) else pure (ForInStep.yield cs) : Sem (ForInStep (List (Str × Addr))))) = pure cl ∧
      (cl.map (·.1)).Nodup ∧ (∀ x c, (x, c) ∈ cl → env.cells.lookup x = some c) ∧ (∀ p ∈ acc, p ∈ cl) ∧ ∀ x, (x, NameKind.free) ∈ names → ∃ c, (x, c) ∈ cl
  | [], acc, _, _, hn, ha => ⟨acc, rfl, hn, fun x c h => (ha x c h).1, fun _ h => h, fun _ h => nomatch h⟩
  | (y, k) :: r, acc, hnd, hc, hn, ha => by
    obtain ⟨h1, h2⟩ := List.nodup_cons.mp hnd
    rw [List.forIn_cons]
    by_cases hk : k = .free
    · subst hk
      obtain ⟨c, hcy⟩ := Option.isSome_iff_exists.mp (hc y (List.mem_cons_self ..))
      obtain ⟨cl, e1, e2, e3, e4, e5⟩ := closureFor_ok r ((y, c) :: acc) h2 (fun x hx => hc x (List.mem_cons_of_mem _ hx))
        (by rw [List.map_cons]; exact List.nodup_cons.mpr ⟨fun hm => by
          obtain ⟨⟨y', c'⟩, hm, e⟩ := List.mem_map.mp hm
          cases e
          exact (ha _ _ hm).2 (by simp), hn⟩)
        (fun x c' hx => by
          rcases List.mem_cons.mp hx with e | hx
          · cases e; exact ⟨hcy, h1⟩
          · exact ⟨(ha x c' hx).1, fun hm => (ha x c' hx).2 (by simp at hm ⊢; exact .inr hm)⟩)
      refine ⟨cl, ?_, e2, e3, fun p hp => e4 p (List.mem_cons_of_mem _ hp), fun x hx => ?_⟩
      · rw [← e1]
        show ((if (NameKind.free == NameKind.free) = true then _ else _) >>= _) = _
        rw [if_pos (by rfl)]
        have : cellOf env y = pure c := by unfold cellOf; rw [hcy]
        simp only [this]
        rfl
      · rcases List.mem_cons.mp hx with e | hx
        · cases e; exact ⟨c, e4 _ (List.mem_cons_self ..)⟩
        · exact e5 x hx
    · obtain ⟨cl, e1, e2, e3, e4, e5⟩ := closureFor_ok r acc h2 (fun x hx => hc x (List.mem_cons_of_mem _ hx)) hn
        (fun x c' hx => ⟨(ha x c' hx).1, fun hm => (ha x c' hx).2 (by simp at hm ⊢; exact .inr hm)⟩)
      refine ⟨cl, ?_, e2, e3, e4, fun x hx => ?_⟩
      · rw [← e1]
        show ((if (k == NameKind.free) = true then _ else _) >>= _) = _
        rw [if_neg (by simpa using hk)]
        rfl
      · rcases List.mem_cons.mp hx with e | hx
        · cases e; exact absurd rfl hk
        · exact e5 x hx

section
variable {w : World} {A : Around} {E : Value → Shared → Prop} {s : Shared} {g : Shared} {o : Bool} {sc : Scope} {env : Env} {l : List (Str × Value)} {P : Heap → Prop}

theorem storeL {x : Str} {v : Value} {Q : Unit → Shared → Prop} (F : Fm w g o sc env s l P) (hk : sc.kind = .function) (h4 : sc.names.lookup x = some .local)
    (h : ∀ h', Heap.SameBut env.locals s.heap h' → Fm w g o sc env { s with heap := h', toks := s.toks + 1 } ((x, v) :: l) P → Q () { s with heap := h', toks := s.toks + 1 }) : wpAny (MM w) A (storeName env x v) Q E s := by
  obtain ⟨m, cm, h1, h2, h3⟩ := F.fr
  have hk' : env.scope.kind = .function := by rw [F.hsc]; exact hk
  have hkd : env.kindOf x = some .local := by show env.scope.names.lookup x = _; rw [F.hsc]; exact h4
  refine wpAny_storeName_local hkd h1 (fun h' hn hs => h _ hs ⟨F.hsc, F.gb, F.ce, F.nd, F.wd, ?_, F.fresh, ⟨_, cm, hn, fun y c e => (h2 y c e).sameBut hs (F.ne y c (mem_of_lookup e)).symm, fun y u e => ⟨fun hy => ?_, fun hy => ?_⟩⟩, F.apart, F.ne,
    fun y c hy => by show c < h'.objs.size; rw [hs.1]; exact F.lt y c hy, F.own, F.stb, ?_⟩) (by rw [hk']; rfl)
  · refine ⟨fun b ob e t => ?_, by show _ ≤ h'.objs.size; rw [hs.1]; exact F.gw.size, F.gw.os, F.gw.gens, fun x => (F.gw.tab x).but hs.extBut (Nat.ne_of_lt (Nat.lt_of_lt_of_le (Nat.lt_trans (by decide) x.lt) F.fresh)) (Nat.ne_of_lt (Nat.lt_of_lt_of_le x.lt F.fresh))⟩
    exact hs.extBut b ob (Nat.ne_of_lt (Nat.lt_of_lt_of_le (Heap.lt_size e) F.fresh)) (F.gw.keep b ob e t)
  · unfold lkp at e
    by_cases hyx : y = x
    · rw [if_pos hyx] at e ⊢; exact e
    · rw [if_neg hyx] at e ⊢; exact (h3 y u e).1 hy
  · unfold lkp at e
    by_cases hyx : y = x
    · subst hyx; rw [h4] at hy; cases hy
    · rw [if_neg hyx] at e; exact (h3 y u e).2 hy
  · exact F.stb _ _ (fun b ob off e _ => hs.extBut b ob off.1 e) F.pins

theorem Fm.cut {x : Str} {v : Value} (F : Fm w g o sc env s ((x, v) :: l) P) (hx : ∀ y ∈ l.map (·.1), y ≠ x) : Fm w g o sc env s l P := by
  obtain ⟨m, cm, h1, h2, h3⟩ := F.fr
  refine ⟨F.hsc, F.gb, F.ce, F.nd, F.wd, F.gw, F.fresh, ⟨m, cm, h1, h2, fun y u e => h3 y u ?_⟩, F.apart, F.ne, F.lt, F.own, F.stb, F.pins⟩
  show (if y = x then _ else _) = _
  rw [if_neg (hx y (List.mem_map.mpr ⟨_, lkp_mem e, rfl⟩))]; exact e
/-- a step that writes objects that the frame doesn't own, all of them new -/
theorem Fm.wstep (F : Fm w g o sc env s l P) {P' : Heap → Prop} {wr : List Addr} (hwr : ∀ b ∈ wr, g.heap.objs.size ≤ b ∧ offE env b) {h' : Heap} (k : ∀ b o, b ∉ wr → s.heap.get? b = some o → h'.get? b = some o) (tk : Nat)
    (hst : Stb env P') (hP : P' h') : Fm w g o sc env { s with heap := h', toks := tk } l P' := by
  obtain ⟨m, cm, h1, h2, h3⟩ := F.fr
  have hl : env.locals ∉ wr := fun hm => (hwr _ hm).2.1 rfl
  have hc : ∀ x c, (x, c) ∈ env.cells → c ∉ wr := fun x c hx hm => (hwr _ hm).2.2 x c hx rfl
  have n1 : h'.Ns env.locals m := let ⟨ob, es, ep, e, d, r⟩ := h1; ⟨ob, es, ep, k _ _ hl e, d, r⟩
  have c1 : ∀ x c, env.cells.lookup x = some c → h'.IsCell c (cm x) := fun x c e => let ⟨ob, e', d⟩ := h2 x c e; ⟨ob, k _ _ (hc x c (mem_of_lookup e)) e', d⟩
  refine ⟨F.hsc, F.gb, F.ce, F.nd, F.wd, ⟨fun b ob e t => k b ob (fun hm => absurd (Heap.lt_size e) (Nat.not_lt.mpr (hwr b hm).1)) (F.gw.keep b ob e t), Nat.le_trans F.fresh (Nat.le_of_lt n1.lt), F.gw.os, F.gw.gens, fun x => ?_⟩, F.fresh, ⟨m, cm, n1, c1, h3⟩, F.apart, F.ne,
    fun x c hx => (c1 x c (lookup_of_mem F.nd hx)).lt, F.own, hst, hP⟩
  obtain ⟨ps, y, z⟩ := F.gw.tab x
  have n7 : (107 : Nat) ∉ wr := fun hm => absurd x.lt (Nat.not_lt.mpr (hwr _ hm).1)
  have n3 : (103 : Nat) ∉ wr := fun hm => absurd (Nat.lt_trans (by decide) x.lt) (Nat.not_lt.mpr (hwr _ hm).1)
  obtain ⟨oo, vs, file, tf, flags, tg, inF, text, tt, op, a, r1, r2, r3, r4, r5, r6, b, r⟩ := y
  obtain ⟨⟨o2, vs2, e2, q⟩, t⟩ := z
  exact ⟨ps, ⟨oo, vs, file, tf, flags, tg, inF, text, tt, op, k _ _ n7 a, r1, r2, r3, r4, r5, r6, k _ _ n3 b, r⟩, ⟨o2, vs2, k _ _ n7 e2, q⟩, k _ _ n3 t⟩

noncomputable def testsT (ifs : List Expr) (cenv : Env) : Sem Bool := forIn ifs true fun c r => if r = true then do let ok ← isTrue c cenv (eval c cenv); pure (ForInStep.yield ok) else pure (ForInStep.yield r)
theorem tests_nil {cenv : Env} {Q : Bool → Shared → Prop} (h : Q true s) : wpAny (MM w) A (testsT [] cenv) Q E s := wpAny_pure h
theorem tests_one {cenv : Env} {c : Expr} {Q : Bool → Shared → Prop} (h : wpAny (MM w) A (isTrue c cenv (eval c cenv)) Q E s) : wpAny (MM w) A (testsT [c] cenv) Q E s := wpAny_tests_one h

noncomputable def compOk (scope sc : Scope) (x : Str) (ns : List Str) : Bool :=
  scope.names.all (fun y => y.2 != .cell && (y.2 != .free || sc.names.lookup y.1 == some .cell)) && decide (scope.names.map (·.1)).Nodup && scope.kind == .function && sc.kind == .function &&
    scope.names.lookup x == some .local && ns.all fun y => scope.names.lookup y == some .free && sc.names.lookup y == some .cell && y != x

noncomputable def KeepP (env : Env) (h h' : Heap) : Prop := ∀ b o, offE env b → h.get? b = some o → (Tb o → b ≠ 103) → h'.get? b = some o
theorem stb_keep (env : Env) (h : Heap) : Stb env (KeepP env h) := fun _ _ k x b o hb e t => k b o hb (x b o hb e t) t
/-- a turn's state still stands behind s₃ -/
noncomputable def Cn (w : World) (s₁ : Shared) (sc' : Scope) (cenv : Env) (l : List (Str × Value)) (s₃ s₄ : Shared) : Prop := ∃ P', Fm w s₁ false sc' cenv s₄ l P' ∧ (P' s₄.heap → KeepP cenv s₃.heap s₄.heap)
noncomputable abbrev CTurn (w : World) (A : Around) (sc : Scope) (scope : Scope) (x : Str) (ifs : List Expr) (elt : Expr) (l' : List (Str × Value)) (s₁ : Shared) (cnt : Nat) (Pv : Nat → Value → Prop) (p : Nat → Bool) (F : Nat → Value → Prop) : Prop :=
  ∀ cenv i v s₃ E', i < cnt → Pv i v → Gw s₁ s₃ → Fm w s₁ false (rlb scope sc) cenv s₃ ((x, v) :: l') (KeepP cenv s₃.heap) →
    wpAny (MM w) A (testsT ifs cenv) (fun ok s₄ => ok = p i ∧ Cn w s₁ (rlb scope sc) cenv ((x, v) :: l') s₃ s₄ ∧ (ok = true → wpAny (MM w) A (eval elt cenv) (fun y s₅ => F i y ∧ Cn w s₁ (rlb scope sc) cenv ((x, v) :: l') s₃ s₅) E' s₄)) E' s₃
noncomputable abbrev KComp (w : World) (A : Around) (g : Shared) (o : Bool) (sc : Scope) (env : Env) (scope : Scope) (x : Str) (l' : List (Str × Value)) (ifs : List Expr) (elt : Expr) (Q : Value → Shared → Prop) : Value → Shared → Prop :=
  fun xv s₁ => ∃ l P cnt Pv p F, Fm w g o sc env s₁ l P ∧ Subs l l' ∧ Iter w A xv s₁ cnt Pv ∧ cnt ≤ sizeLine ∧ CTurn w A sc scope x ifs elt l' s₁ cnt Pv p F ∧
    (∀ D ys s', s₁.heap.objs.size ≤ D → Paired F ((List.range cnt).filter p) ys → Fm w g o sc env s' l (fun h => Ls D ys h ∧ P h) → Q (.ref D) s')

noncomputable abbrev CTurnH (w : World) (A : Around) (sc : Scope) (scope : Scope) (x : Str) (ifs : List Expr) (elt : Expr) (l' : List (Str × Value)) (s₁ : Shared) (cnt : Nat) (Pv : Nat → Value → Prop) (p : Nat → Bool) (fr : Bool) (F : Nat → Value → Heap → Prop) : Prop :=
  ∀ cenv i v s₃ E', i < cnt → Pv i v → Gw s₁ s₃ → Fm w s₁ false (rlb scope sc) cenv s₃ ((x, v) :: l') (KeepP cenv s₃.heap) →
    wpAny (MM w) A (testsT ifs cenv) (fun ok s₄ => ok = p i ∧ Cn w s₁ (rlb scope sc) cenv ((x, v) :: l') s₃ s₄ ∧ (ok = true → wpAny (MM w) A (eval elt cenv) (fun y s₅ => (F i y s₅.heap ∧ (fr = true → ∀ T, y = .ref T → s₃.heap.objs.size ≤ T)) ∧ Cn w s₁ (rlb scope sc) cenv ((x, v) :: l') s₃ s₅) E' s₄)) E' s₃
noncomputable abbrev KCompN (w : World) (A : Around) (g : Shared) (o : Bool) (sc : Scope) (env : Env) (scope : Scope) (x : Str) (l' : List (Str × Value)) (ifs : List Expr) (elt : Expr) (Q : Value → Shared → Prop) : Value → Shared → Prop :=
  fun xv s₁ => ∃ (l : List (Str × Value)) (P : Heap → Prop) (cnt : Nat) (Pv : Nat → Value → Prop) (p : Nat → Bool) (fr : Bool) (F : Nat → Value → Heap → Prop), (∀ i y h h', (∀ b ob, fr = true → y = .ref b → h.get? b = some ob → h'.get? b = some ob) → F i y h → F i y h') ∧ (fr = true → ∀ i y h T, F i y h → y = .ref T → ∃ ob, h.get? T = some ob ∧ Sq ob) ∧ Fm w g o sc env s₁ l P ∧ Subs l l' ∧ Iter w A xv s₁ cnt Pv ∧ cnt ≤ sizeLine ∧ CTurnH w A sc scope x ifs elt l' s₁ cnt Pv p fr F ∧
    (∀ D ys s', s₁.heap.objs.size ≤ D → Paired (fun i y => F i y s'.heap) ((List.range cnt).filter p) ys → (fr = true → ys.Pairwise (fun a b => ∀ T, a = .ref T → b ≠ .ref T) ∧ ∀ y ∈ ys, ∀ T, y = .ref T → D < T) →
      Fm w g o sc env s' l (fun h => LN D ys h ∧ P h) → Q (.ref D) s')
noncomputable abbrev KCompU (w : World) (A : Around) (g : Shared) (o : Bool) (sc : Scope) (env : Env) (scope : Scope) (x : Str) (l' : List (Str × Value)) (ifs : List Expr) (elt : Expr) (use : Option (Value → Sem Unit)) (E : Value → Shared → Prop) (Q : Value → Shared → Prop) : Value → Shared → Prop :=
  fun xv s₁ => ∃ (l : List (Str × Value)) (P : Heap → Prop) (cnt : Nat) (Pv : Nat → Value → Prop) (p : Nat → Bool) (fr : Bool) (F : Nat → Value → Heap → Prop), (∀ i y h h', (∀ b ob, fr = true → y = .ref b → h.get? b = some ob → h'.get? b = some ob) → F i y h → F i y h') ∧ (fr = true → ∀ i y h T, F i y h → y = .ref T → ∃ ob, h.get? T = some ob ∧ Sq ob) ∧ Fm w g o sc env s₁ l P ∧ Subs l l' ∧ Iter w A xv s₁ cnt Pv ∧ cnt ≤ sizeLine ∧ CTurnH w A sc scope x ifs elt l' s₁ cnt Pv p fr F ∧
    (∀ (D C : Addr) ys s', s₁.heap.objs.size ≤ D → s₁.heap.objs.size ≤ C → D ≠ C → Gw s₁ s' → (∃ m, s'.heap.Ns C m) → LN D ys s'.heap → (∀ h₃, Heap.SameBut C s'.heap h₃ → Paired (fun i y => F i y h₃) ((List.range cnt).filter p) ys) → (fr = true → ys.Pairwise (fun a b => ∀ T, a = .ref T → b ≠ .ref T) ∧ ∀ y ∈ ys, ∀ T, y = .ref T → D < T) →
      compPost (MM w) A E use Q (.ref D) C (.ok .next) s')
theorem turnH_of {sc scope : Scope} {x : Str} {ifs : List Expr} {elt : Expr} {l' : List (Str × Value)} {s₁ : Shared} {cnt : Nat} {Pv : Nat → Value → Prop} {p : Nat → Bool} {F : Nat → Value → Prop} (turn : CTurn w A sc scope x ifs elt l' s₁ cnt Pv p F) :
    CTurnH w A sc scope x ifs elt l' s₁ cnt Pv p false (fun i y _ => F i y) := fun cenv i v s₃ E' hi hv hg hF =>
  wpAny_mono (turn cenv i v s₃ E' hi hv hg hF) (fun _ _ a => ⟨a.1, a.2.1, fun e => wpAny_mono (a.2.2 e) (fun _ _ d => ⟨⟨d.1, (nomatch ·)⟩, d.2⟩) fun _ _ e => e⟩) fun _ _ e => e
theorem paired_imp {α β : Type} {F G : α → β → Prop} (h : ∀ a b, F a b → G a b) : ∀ {l₁ : List α} {l₂ : List β}, Paired F l₁ l₂ → Paired G l₁ l₂
  | _, _, .nil => .nil
  | _, _, .cons a t => .cons (h _ _ a) (paired_imp h t)
theorem paired_mem {α β : Type} {F G : α → β → Prop} : ∀ {l₁ : List α} {l₂ : List β}, Paired F l₁ l₂ → (∀ a b, b ∈ l₂ → F a b → G a b) → Paired G l₁ l₂
  | _, _, .nil, _ => .nil
  | _, _, .cons a t, h => .cons (h _ _ (List.mem_cons_self ..) a) (paired_mem t fun a b hb => h a b (List.mem_cons_of_mem _ hb))

theorem comp_core {elt iter : Expr} {x : Str} {px : Pos} {ifs : List Expr} {scope : Scope} {pos ip : Pos} {use : Option (Value → Sem Unit)} {Q : Value → Shared → Prop} (l' : List (Str × Value)) (ns : List Str) (F₀ : Fm w g o sc env s l P)
    (h : wpAny (MM w) A (eval iter env) (KCompU w A g o sc env scope x l' ifs elt use E Q) E s)
    (hns : l'.map (·.1) = ns) (hok : compOk scope sc x ns = true) (hs : ∀ x, foldedSetIterable iter env x = pure x) :
    wpAny (MM w) A (comprehension (.ListComp elt [⟨.Name x px, iter, ifs, 0⟩] scope pos) scope env ip (newList []) false (eval iter env) use) Q E s := by
  subst hns
  have hsc := F₀.hsc
  have hce := F₀.ce
  simp only [compOk, Bool.and_eq_true, List.all_eq_true, Bool.or_eq_true, bne_iff_ne, ne_eq, beq_iff_eq, decide_eq_true_eq] at hok
  obtain ⟨⟨⟨⟨⟨hok, hnd⟩, hkind⟩, hskind⟩, hx⟩, hcap⟩ := hok
  have hcell : ∀ y ∈ scope.names, y.2 ≠ .cell := fun y hy => (hok y hy).1
  have hnames : ∀ y ∈ scope.names, y.2 = .local → scope.names.lookup y.1 = some .local := fun y hy e => by
    have : (y.1, NameKind.local) ∈ scope.names := by rw [← e]; exact hy
    exact lookup_of_mem hnd this
  obtain ⟨cl, hclos, cl1, cl2, _, cl4⟩ := closureFor_ok (env := env) scope.names [] hnd (fun y hy => hce y (by rcases (hok _ hy).2 with e | e; · exact absurd rfl e
                                                                                                               · exact e)) List.nodup_nil (fun _ _ h => nomatch h)
  have hclos : closureFor scope env = pure cl := by
    unfold closureFor
    rw [show (pure cl : Sem (List (Str × Addr))) = (pure cl >>= pure) from rfl, ← hclos]
  refine wpAny_comprehension_free (use := use) rfl hs hclos hkind hnames (wpAny_mono h (fun xv s₁ h₁ => ?_) fun _ _ e => e)
  obtain ⟨l, P, cnt, Pv, p, fr, F, stF, exF, Fr, hsub, hit, hsz, turn, fin⟩ := h₁
  refine hit _ _ fun I fp wr St s₂ W hst hfp hwr hg => ?_
  refine wpAny_newObj_type (wpAny_newFunctionEnv hcell (by intro y hy; simp at hy) (fun h₁ hns₁ hsb₁ => ?_) hkind)
  dsimp only at hns₁ hsb₁ ⊢
  generalize hH2 : s₂.heap.push { cls := .type "list", dict := none, data := .seq ([] : List Value).toArray } = H2 at hns₁ hsb₁ ⊢
  have hC : H2.objs.size = s₂.heap.objs.size + 1 := by rw [← hH2, Heap.size_push]
  have below : ∀ b, b < s₂.heap.objs.size → b ≠ H2.objs.size ∧ b ≠ s₂.heap.objs.size := fun b hb => ⟨by rw [hC]; exact Nat.ne_of_lt (Nat.lt_succ_of_lt hb), Nat.ne_of_lt hb⟩
  have old : ∀ b o, s₂.heap.get? b = some o → h₁.get? b = some o := fun b o e => hsb₁.extBut b o (below b (Heap.lt_size e)).1 (Heap.get?_push_of_some _ (hH2 ▸ Heap.get?_push_of_some _ e))
  have hDC : s₂.heap.objs.size ≠ H2.objs.size := by rw [hC]; exact Nat.ne_of_lt (Nat.lt_succ_self _)
  have hacc : LN s₂.heap.objs.size [] h₁ := ⟨0, (hsb₁.extBut _ _ hDC (Heap.get?_push_of_some _ (hH2 ▸ Heap.get?_push_size _ rfl)))⟩
  have hst₁ : St 0 h₁ := W.frame _ _ _ hst fun b _ o e => old b o e
  have hfpo : ∀ b ∈ fp, b ≠ 103 ∧ b < s₂.heap.objs.size := fun b hb => let ⟨ob, e, q⟩ := hfp b hb; ⟨q.ne103 (hg.tab Fr.Wd.tab) e, Heap.lt_size e⟩
  generalize hD : s₂.heap.objs.size = D at *
  generalize hCC : H2.objs.size = C at *
  have hs1D : s₁.heap.objs.size ≤ D := hD ▸ hg.size
  have hs1C : s₁.heap.objs.size ≤ C := by omega
  have hDsz : D < h₁.objs.size := hacc.ls.lt
  -- the comprehension's frame
  have hclsub : ∀ y c, (y, c) ∈ cl → env.cells.lookup y = some c := cl2
  have hclt : ∀ y c, (y, c) ∈ cl → c < s₁.heap.objs.size := fun y c hy => Fr.lt y c (mem_of_lookup (cl2 y c hy))
  generalize hcenv : compEnvC scope cl C env = cenv
  have ce1 : cenv.scope = rlb scope sc := by rw [← hcenv]; exact rlb_eq hsc
  have ce2 : cenv.locals = C := by rw [← hcenv]; rfl
  have ce3 : cenv.cells = cl := by rw [← hcenv]; rfl
  have ce4 : cenv.globals = mainGlobals ∧ cenv.builtins = builtinsNs := by rw [← hcenv]; exact Fr.gb
  have hx' : (rlb scope sc).names.lookup x = some .local := by
    have := lookup_relabel_local (env := env) hx
    rw [show (rlb scope sc) = relabel scope env from (rlb_eq hsc).symm]
    exact this
  have F1 : Fm w s₁ false (rlb scope sc) cenv { s₂ with heap := h₁, toks := s₂.toks + ([] : List (Str × Value)).length } l' (fun _ => True) := by
    obtain ⟨m, cm, f1, f2, f3⟩ := Fr.fr
    have gw1 : Gw s₁ { s₂ with heap := h₁, toks := s₂.toks + ([] : List (Str × Value)).length } := hg.trans (.of_keep old (by omega))
    refine ⟨ce1, ce4, fun y hy => ?_, by rw [ce3]; exact cl1, Fr.Wd, gw1, by rw [ce2]; exact hs1C, ⟨_, cm, by rw [ce2]; exact hns₁, fun y c e => ?_, fun y v e => ⟨fun hy => ?_, fun hy => ?_⟩⟩, ?_, fun y c hy => ?_, fun y c hy => ?_, (nomatch ·), .true _, trivial⟩
    · obtain ⟨hy1, _⟩ := lookup_rlb_cell hcell hy
      obtain ⟨c, hc⟩ := cl4 y hy1
      rw [ce3, lookup_of_mem cl1 hc]; rfl
    · rw [ce3] at e
      obtain ⟨ob, e', d⟩ := f2 y c (cl2 y c (mem_of_lookup e))
      exact ⟨ob, gw1.keep _ _ e' (fun t => by obtain ⟨_, vs, e⟩ := t; rw [d] at e; cases e), d⟩
    · obtain ⟨⟨h1, h2⟩, _⟩ := hcap y (List.mem_map.mpr ⟨_, lkp_mem e, rfl⟩)
      have := lookup_rlb_free h1 hskind h2
      exact absurd (this.symm.trans hy) (by simp)
    · obtain ⟨⟨h1, h2⟩, _⟩ := hcap y (List.mem_map.mpr ⟨_, lkp_mem e, rfl⟩)
      exact (f3 y v (hsub.lkp y v e)).2 h2
    · rw [ce3]
      have hp : cl.Pairwise fun x y => x.1 ≠ y.1 := by
        have := List.pairwise_map.mp cl1
        exact this
      refine List.Pairwise.imp_of_mem (fun {a b} ha hb hab e => hab ?_) hp
      exact name_of_addr Fr.apart (mem_of_lookup (cl2 a.1 a.2 ha)) (by rw [e]; exact mem_of_lookup (cl2 b.1 b.2 hb))
    · rw [ce3] at hy; rw [ce2]; exact (Nat.ne_of_lt (Nat.lt_of_lt_of_le (hclt y c hy) hs1C)).symm
    · rw [ce3] at hy; exact Nat.lt_of_lt_of_le (hclt y c hy) (by have := gw1.size; exact this)
  have offc : ∀ b, s₁.heap.objs.size ≤ b → b ≠ C → offE cenv b := fun b hb hbc => ⟨by rw [ce2]; exact hbc, fun y c hy => by
    rw [ce3] at hy; exact (Nat.ne_of_lt (Nat.lt_of_lt_of_le (hclt y c hy) hb)).symm⟩
  have hDltC : D < C := by omega
  have hwrC : ∀ b ∈ wr, b ≠ C ∧ b ≠ D := fun b hb => have h := (hfpo b (W.sub b hb)).2; ⟨Nat.ne_of_lt (Nat.lt_trans h hDltC), Nat.ne_of_lt h⟩
  have hfpC : ∀ b ∈ fp, b ≠ C ∧ b ≠ D := fun b hb => have h := (hfpo b hb).2; ⟨Nat.ne_of_lt (Nat.lt_trans h hDltC), Nat.ne_of_lt h⟩
  clear hns₁ hsb₁
  have loop : codeAny (MM w) A (.compLoop (.ListComp elt [⟨.Name x px, iter, ifs, 0⟩] scope pos) 0 (.ref I) (.ref D) cenv) (compPost (MM w) A E use Q (.ref D) C) { s₂ with heap := h₁, toks := s₂.toks + ([] : List (Str × Value)).length } := by
    refine codeAny_compLoop_tests (fun k s' => ∃ i ys, i ≤ cnt ∧ k = cnt + 1 - i ∧ St i s'.heap ∧ LN D ys s'.heap ∧ (Paired (fun i y => F i y s'.heap) ((List.range i).filter p) ys ∧ (fr = true → ys.Pairwise (fun a b => ∀ T, a = .ref T → b ≠ .ref T) ∧ ∀ y ∈ ys, ∀ T, y = .ref T → C < T)) ∧ Fm w s₁ false (rlb scope sc) cenv s' l' (fun _ => True)) ?_ (cnt + 1)
      ⟨0, [], Nat.zero_le _, rfl, hst₁, hacc, ⟨.nil, fun _ => ⟨.nil, fun _ h => nomatch h⟩⟩, F1⟩
    rintro k s' ⟨i, ys, hi, rfl, hsti, hys, ⟨hpr, hfr⟩, Fi⟩
    by_cases hlt : i < cnt
    · refine W.item i _ _ _ hlt hsti fun v h₂ tk₂ hPv hst₂ hk₂ => ?_
      have F2 := Fi.wstep (P' := fun _ => True) (wr := wr) (fun b hb => ⟨hwr b hb, offc b (hwr b hb) (hwrC b hb).1⟩) hk₂ tk₂ (.true _) trivial
      refine wpAny_assign_Name (storeL F2 hkind hx' fun h₃ hs₃ F3 => ?_)
      have hst₃ : St (i + 1) h₃ := W.frame _ _ _ hst₂ fun b hb o e => hs₃.extBut b o (by rw [ce2]; exact (hfpC b hb).1) e
      have hys₃ : LN D ys h₃ := hys.at fun _ e _ => hs₃.extBut _ _ (by rw [ce2]; exact hDC) (hk₂ _ _ (fun hm => (hwrC _ hm).2 rfl) e)
      have offfp : ∀ b ∈ fp, offE cenv b := fun b hb => by
        rcases Nat.lt_or_ge b s₁.heap.objs.size with hlt' | hge
        · obtain ⟨ob, e, q⟩ := hfp b hb
          obtain ⟨x1, x2⟩ := Sq.off (Fr.gws hg) e q
          exact ⟨by rw [ce2]; exact (hfpC b hb).1, fun y c hy => by rw [ce3] at hy; exact x2 y c (mem_of_lookup (cl2 y c hy))⟩
        · exact offc b hge (hfpC b hb).1
      have hpr₃ : Paired (fun i y => F i y h₃) ((List.range i).filter p) ys := paired_mem hpr fun j y hy hF => stF _ _ _ _ (fun b ob hfr' hb e =>
        have hCb := (hfr hfr').2 y hy b hb
        hs₃.extBut b ob (by rw [ce2]; exact Nat.ne_of_gt hCb) (hk₂ b ob (fun hm => absurd hCb (Nat.not_lt.mpr (Nat.le_of_lt (Nat.lt_trans ((hfpo b (W.sub b hm)).2) hDltC)))) e)) hF
      have offy : fr = true → ∀ y ∈ ys, ∀ T, y = .ref T → offE cenv T := fun hfr' y hy T hT =>
        have hCb := (hfr hfr').2 y hy T hT
        offc T (Nat.le_trans hs1C (Nat.le_of_lt hCb)) (Nat.ne_of_gt hCb)
      have sqy : fr = true → ∀ j, ∀ y ∈ ys, ∀ T ob, F j y h₃ → y = .ref T → h₃.get? T = some ob → ¬ Tb ob := fun hfr' j y _ T ob hF hT e t => by
        obtain ⟨ob', e', q⟩ := exF hfr' j y h₃ T hF hT
        rw [e] at e'; cases e'; exact q.1 t
      have pr4 : ∀ {s₄ : Shared}, KeepP cenv h₃ s₄.heap → Paired (fun i y => F i y s₄.heap) ((List.range i).filter p) ys := fun {s₄} k₄ =>
        paired_mem hpr₃ fun j y hy hF => stF _ _ _ _ (fun b ob hfr' hb e => k₄ b ob (offy hfr' y hy b hb) e fun t => absurd t (sqy hfr' j y hy b ob hF hb e)) hF
      have lt3 : fr = true → ∀ y ∈ ys, ∀ T, y = .ref T → T < h₃.objs.size := fun hfr' y hy T hT => by
        obtain ⟨j, hF⟩ := Paired.right hpr₃ y hy
        obtain ⟨ob, e, _⟩ := exF hfr' j y h₃ T hF hT
        exact Heap.lt_size e
      have hC3 : C < h₃.objs.size := by have := F3.loc_lt; rw [ce2] at this; exact this
      have off4 : ∀ {s₄ : Shared}, KeepP cenv h₃ s₄.heap → St (i + 1) s₄.heap ∧ LN D ys s₄.heap := fun {s₄} k₄ =>
        ⟨W.frame _ _ _ hst₃ fun b hb o e => k₄ b o (offfp b hb) e fun _ => (hfpo b hb).1, hys₃.at fun _ e t => k₄ _ _ (offc _ hs1D hDC) e t⟩
      have F3' := F3.weak (R := KeepP cenv h₃) (stb_keep _ _) fun _ b o _ e _ => e
      refine wpAny_mono (turn cenv i v _ _ hlt hPv F3.gw F3') (fun ok s₄ h₄ => ?_) fun _ _ e => e
      obtain ⟨rfl, ⟨P₄, F₄, k₄⟩, h₄⟩ := h₄
      obtain ⟨hst₄, hys₄⟩ := off4 (k₄ F₄.pins)
      have F4 : Fm w s₁ false (rlb scope sc) cenv s₄ l' (fun _ => True) := (F₄.cut fun y hy => (hcap y hy).2).weak (.true _) fun _ => trivial
      have hr : (List.range (i + 1)).filter p = (List.range i).filter p ++ (if p i then [i] else []) := by
        rw [List.range_succ, List.filter_append]
        cases hp : p i <;> simp [hp]
      cases hpi : p i with
      | false =>
        simp only [Bool.false_eq_true, if_false]
        refine ⟨cnt + 1 - (i + 1), by omega, i + 1, ys, hlt, rfl, hst₄, hys₄, ⟨?_, hfr⟩, F4⟩
        rw [hr, hpi]; simpa using pr4 (k₄ F₄.pins)
      | true =>
        simp only [if_true]
        refine wpAny_mono (h₄ hpi) (fun y s₅ h₅ => ?_) fun _ _ e => e
        obtain ⟨⟨hFy, hfy⟩, P₅, F₅, k₅⟩ := h₅
        obtain ⟨hst₅, hys₅⟩ := off4 (k₅ F₅.pins)
        have F5 : Fm w s₁ false (rlb scope sc) cenv s₅ l' (fun _ => True) := (F₅.cut fun y hy => (hcap y hy).2).weak (.true _) fun _ => trivial
        have hlen : ys.length ≤ sizeLine := by
          have e1 := hpr.length
          have e2 := List.length_filter_le p (List.range i)
          simp at e2; omega
        refine wpAny_list_append_plain (items := ys.toArray) hys₅ (hsz := by simpa using hlen) fun h₆ hl₆ hs₆ => ?_
        refine ⟨cnt + 1 - (i + 1), by omega, i + 1, ys ++ [y], hlt, rfl, ?_, by simpa [LN] using hl₆, ⟨?_, fun hfr' => ⟨?_, ?_⟩⟩, ?_⟩
        · exact W.frame _ _ _ hst₅ fun b hb o e => hs₆.extBut b o (hfpC b hb).2 e
        · have pr5 : Paired (fun i y => F i y h₆) ((List.range i).filter p) ys := paired_mem (pr4 (k₅ F₅.pins)) fun j y hy hF => stF _ _ _ _ (fun b ob hfr' hb e =>
            hs₆.extBut b ob (Nat.ne_of_gt (Nat.lt_trans hDltC ((hfr hfr').2 y hy b hb))) e) hF
          have hy6 : F i y h₆ := stF _ _ _ _ (fun b ob hfr' hb e => hs₆.extBut b ob (Nat.ne_of_gt (Nat.lt_of_lt_of_le (Nat.lt_trans hDltC hC3) (hfy hfr' b hb))) e) hFy
          rw [hr, hpi]; exact pr5.snoc hy6
        · refine List.pairwise_append.mpr ⟨(hfr hfr').1, List.pairwise_singleton _ _, fun a ha b hb T hT hT' => ?_⟩
          simp at hb; subst hb
          exact absurd (lt3 hfr' a ha T hT) (Nat.not_lt.mpr (hfy hfr' T hT'))
        · intro z hz T hT
          rcases List.mem_append.mp hz with hz | hz
          · exact (hfr hfr').2 z hz T hT
          · simp at hz; subst hz
            exact Nat.lt_of_lt_of_le hC3 (hfy hfr' T hT)
        · exact F5.wstep (P' := fun _ => True) (wr := [D]) (fun b hb => by simp at hb; subst hb; exact ⟨hs1D, offc _ hs1D hDC⟩) (fun b o hb e => hs₆.extBut b o (by simpa using hb) e) s₅.toks (.true _) trivial
    · have hin : i = cnt := by omega
      subst hin
      refine W.done _ _ _ hsti fun h₂ tk₂ hk₂ => ?_
      have F2 := Fi.wstep (P' := fun _ => True) (wr := wr) (fun b hb => ⟨hwr b hb, offc b (hwr b hb) (hwrC b hb).1⟩) hk₂ tk₂ (.true _) trivial
      have hys₂ : LN D ys h₂ := hys.at fun _ e _ => hk₂ _ _ (fun hm => (hwrC _ hm).2 rfl) e
      obtain ⟨m, _, f1, _⟩ := F2.fr
      rw [ce2] at f1
      have prE : ∀ h₃, Heap.SameBut C h₂ h₃ → Paired (fun i y => F i y h₃) ((List.range i).filter p) ys := fun h₃ hs₃ => paired_mem hpr fun j y hy hF => stF _ _ _ _ (fun b ob hfr' hb e =>
        have hCb := (hfr hfr').2 y hy b hb
        hs₃.extBut b ob (Nat.ne_of_gt hCb) (hk₂ b ob (fun hm => absurd hCb (Nat.not_lt.mpr (Nat.le_of_lt (Nat.lt_trans ((hfpo b (W.sub b hm)).2) hDltC)))) e)) hF
      exact fin D C ys _ hs1D hs1C hDC F2.gw ⟨m, f1⟩ hys₂ prE (fun hfr' => ⟨(hfr hfr').1, fun y hy T hT => Nat.lt_trans hDltC ((hfr hfr').2 y hy T hT)⟩)
  subst hcenv
  exact codeAny_compStart_list loop (W.self 0 _ _ _ hst₁ loop)
theorem gw_but {s₁ s' : Shared} {C : Addr} (hG : Gw s₁ s') (hC : s₁.heap.objs.size ≤ C) {h₃ : Heap} (hs₃ : Heap.SameBut C s'.heap h₃) (tk : Nat) : Gw s₁ { s' with heap := h₃, toks := tk } :=
  ⟨fun b ob e t => hs₃.extBut b ob (Nat.ne_of_lt (Nat.lt_of_lt_of_le (Heap.lt_size e) hC)) (hG.keep b ob e t), by show _ ≤ h₃.objs.size; rw [hs₃.1]; exact hG.size, hG.os, hG.gens,
    fun x => (hG.tab x).but hs₃.extBut (Nat.ne_of_lt (Nat.lt_of_lt_of_le (Nat.lt_trans (by decide) x.lt) hC)) (Nat.ne_of_lt (Nat.lt_of_lt_of_le x.lt hC))⟩
theorem comp_ruleN {elt iter : Expr} {x : Str} {px : Pos} {ifs : List Expr} {scope : Scope} {pos : Pos} {Q : Value → Shared → Prop} (l' : List (Str × Value)) (ns : List Str) (F₀ : Fm w g o sc env s l P)
    (h : wpAny (MM w) A (eval iter env) (KCompN w A g o sc env scope x l' ifs elt Q) E s)
    (hns : l'.map (·.1) = ns) (hok : compOk scope sc x ns = true) (hs : ∀ x, foldedSetIterable iter env x = pure x) :
    wpAny (MM w) A (eval (.ListComp elt [⟨.Name x px, iter, ifs, 0⟩] scope pos) env) Q E s := by
  rw [eval_ListComp]
  refine comp_core l' ns F₀ (wpAny_mono h (fun xv s₁ hq => ?_) fun _ _ e => e) hns hok hs
  obtain ⟨l, P, cnt, Pv, p, fr, F, stF, exF, Fr, hsub, hit, hsz, turn, fin⟩ := hq
  refine ⟨l, P, cnt, Pv, p, fr, F, stF, exF, Fr, hsub, hit, hsz, turn, fun D C ys s' hD hC hDC hG hm hL hp hq => ?_⟩
  obtain ⟨m, hm⟩ := hm
  exact ⟨m, hm, fun h₃ hs₃ => fin D ys _ hD (hp h₃ hs₃) hq ((Fr.gws (gw_but hG hC hs₃ _)).pin (stb_ln (Fr.off hD)) (hL.at fun _ e _ => hs₃.extBut _ _ hDC e))⟩
/-- a comprehension that goes to a name of the frame -/
noncomputable abbrev KCompA (w : World) (A : Around) (g : Shared) (o : Bool) (sc : Scope) (env : Env) (scope : Scope) (x y : Str) (l' : List (Str × Value)) (ifs : List Expr) (elt : Expr) (Q : Flow → Shared → Prop) : Value → Shared → Prop :=
  fun xv s₁ => ∃ l P cnt Pv p F, Fm w g o sc env s₁ l P ∧ Subs l l' ∧ Iter w A xv s₁ cnt Pv ∧ cnt ≤ sizeLine ∧ CTurn w A sc scope x ifs elt l' s₁ cnt Pv p F ∧
    (∀ D ys s', s₁.heap.objs.size ≤ D → offE env D → Paired F ((List.range cnt).filter p) ys → Fm w g o sc env s' ((y, .ref D) :: l) (fun h => LN D ys h ∧ P h) → Q .next s')
theorem comp_ruleA {elt iter : Expr} {x y : Str} {px py : Pos} {ifs : List Expr} {scope : Scope} {pos spos : Pos} {Q : Flow → Shared → Prop} (l' : List (Str × Value)) (ns : List Str) (F₀ : Fm w g o sc env s l P)
    (h : wpAny (MM w) A (eval iter env) (KCompA w A g o sc env scope x y l' ifs elt Q) E s)
    (hns : l'.map (·.1) = ns) (hok : compOk scope sc x ns = true) (hs : ∀ x, foldedSetIterable iter env x = pure x)
    (hsw : (sc.kind == .function && sc.names.lookup y == some .local && py.line == pos.line && !(scope.names.any fun (n, k) => n == y && (k == .local || k == .cell))) = true) :
    wpAny (MM w) A (exec (.Assign [.Name y py] (.ListComp elt [⟨.Name x px, iter, ifs, 0⟩] scope pos) spos) env) Q E s := by
  have hsc := F₀.hsc
  have hsw' : swapsWith (.ListComp elt [⟨.Name x px, iter, ifs, 0⟩] scope pos) (some (.Name y py)) spos.line env = pure true := by
    show (pure (env.blockKind == .function && env.kindOf y == some .local && py.line == pos.line && !(scope.names.any fun (n, k) => n == y && (k == .local || k == .cell))) : Sem Bool) = pure true
    have hk : (sc.kind == ScopeKind.function) = true := by simp only [Bool.and_eq_true] at hsw; exact hsw.1.1.1
    have hb : (env.blockKind == .function) = true := by unfold Env.blockKind; rw [hsc, eq_of_beq hk]; rfl
    have hy : (env.kindOf y == some .local) = true := by
      show (env.scope.names.lookup y == _) = true
      rw [hsc]; simp only [Bool.and_eq_true] at hsw; exact hsw.1.1.2
    simp only [Bool.and_eq_true] at hsw
    rw [hb, hy, hsw.1.2, hsw.2]; rfl
  have hk : sc.kind = .function := by simp only [Bool.and_eq_true, beq_iff_eq] at hsw; exact hsw.1.1.1
  have hy : sc.names.lookup y = some .local := by simp only [Bool.and_eq_true, beq_iff_eq] at hsw; exact hsw.1.1.2
  rw [exec_Assign_Name_used _ _ _ _ hsw']
  refine wpAny_bind (wpAny_standAt (wpAny_bind ?_))
  show wpAny _ A (do let _ ← comprehension (.ListComp elt [⟨.Name x px, iter, ifs, 0⟩] scope pos) scope env _ (newList []) false (eval iter env) (some (assign (.Name y py) env))) _ _ s
  refine wpAny_bind (wpAny_mono (comp_core (use := some (assign (.Name y py) env)) (Q := fun _ s' => Q .next s') l' ns F₀ (wpAny_mono h (fun xv s₁ hq => ?_) fun _ _ e => e) hns hok hs)
    (fun _ s' hq => wpAny_pure (wpAny_pure hq)) fun _ _ e => e)
  obtain ⟨l, P, cnt, Pv, p, F, Fr, hsub, hit, hsz, turn, fin⟩ := hq
  refine ⟨l, P, cnt, Pv, p, false, fun i y _ => F i y, fun _ _ _ _ _ h => h, (nomatch ·), Fr, hsub, hit, hsz, turnH_of turn, fun D C ys s' hD hC hDC hG hm hL hp hq => ?_⟩
  obtain ⟨m, hm⟩ := hm
  have offD := Fr.off hD
  have offC := Fr.off hC
  have gC : g.heap.objs.size ≤ C := Nat.le_trans Fr.gw.size hC
  have F1 : Fm w g o sc env s' l (fun h => LN D ys h ∧ P h) := (Fr.gws hG).pin (stb_ln offD) hL
  show wpAny _ A (assign (.Name y py) env (.ref D)) _ _ _
  refine wpAny_assign_Name (storeL F1 hk hy fun h₄ hs₄ F4 => ?_)
  refine ⟨m, hm.sameBut hs₄ offC.1, fun h₅ hs₅ => ?_⟩
  have hP5 : P h₅ := Fr.stb _ _ (fun b ob off e t => hs₅.extBut b ob (fun q => absurd (Heap.lt_size e) (Nat.not_lt.mpr (q ▸ hC))) (hs₄.extBut b ob off.1 (hG.keep b ob e t))) Fr.pins
  have F5 := F4.wstep (P' := fun h => LN D ys h ∧ P h) (wr := [C]) (fun b hb => by simp at hb; subst hb; exact ⟨gC, offC⟩) (fun b ob hb e => hs₅.extBut b ob (by simpa using hb) e) (s'.toks + 1) F4.stb ⟨F4.pins.1.at fun _ e _ => hs₅.extBut _ _ hDC e, hP5⟩
  exact fin D ys _ hD offD (hp s'.heap (.refl ..)) F5
theorem Fm.lsOf {D : Addr} {ys : List Value} (F : Fm w g o sc env s l (fun h => LN D ys h ∧ P h)) (hP : Stb env P) : Fm w g o sc env s l (fun h => Ls D ys h ∧ P h) := by
  obtain ⟨n, e⟩ := F.pins.1
  exact F.weak (Stb.and hP (stb_ls _ (let a := Sq.off F e (sq_seq rfl rfl); ⟨a.1, a.2⟩))) fun x => ⟨x.1.ls, x.2⟩
theorem comp_rule {elt iter : Expr} {x : Str} {px : Pos} {ifs : List Expr} {scope : Scope} {pos : Pos} {Q : Value → Shared → Prop} (l' : List (Str × Value)) (ns : List Str) (F₀ : Fm w g o sc env s l P)
    (h : wpAny (MM w) A (eval iter env) (KComp w A g o sc env scope x l' ifs elt Q) E s)
    (hns : l'.map (·.1) = ns) (hok : compOk scope sc x ns = true) (hs : ∀ x, foldedSetIterable iter env x = pure x) :
    wpAny (MM w) A (eval (.ListComp elt [⟨.Name x px, iter, ifs, 0⟩] scope pos) env) Q E s := by
  refine comp_ruleN l' ns F₀ (wpAny_mono h (fun xv s₁ hq => ?_) fun _ _ e => e) hns hok hs
  obtain ⟨l, P, cnt, Pv, p, F, Fr, hsub, hit, hsz, turn, fin⟩ := hq
  exact ⟨l, P, cnt, Pv, p, false, fun i y _ => F i y, fun _ _ _ _ _ h => h, (nomatch ·), Fr, hsub, hit, hsz, turnH_of turn, fun D ys s' hD hp _ hF => fin D ys s' hD hp (hF.weak (Stb.and Fr.stb (stb_ls _ (Fr.off hD))) fun x => ⟨x.1.ls, x.2⟩)⟩
end
end Mine
namespace Mine
set_option maxRecDepth 100000
open PySem PySem.W PyProof.Rows

/-! ## slices -/
section
variable {w : World} {A : Around} {E : Value → Shared → Prop} {s : Shared} {g : Shared} {o : Bool} {sc : Scope} {env : Env} {l : List (Str × Value)} {P : Heap → Prop}

noncomputable abbrev KS3 (w : World) (A : Around) (E : Value → Shared → Prop) (Q : Value → Shared → Prop) (ov vl : Value) : Value → Shared → Prop := fun vu s₃ =>
  ItemOn (MM w) A E ov (.ref s₃.heap.objs.size) Q { s₃ with heap := s₃.heap.push { cls := .type "slice", data := .fields #[vl, vu, .none] } }
noncomputable abbrev KS2 (w : World) (A : Around) (env : Env) (upper : Option Expr) (E : Value → Shared → Prop) (Q : Value → Shared → Prop) (ov : Value) : Value → Shared → Prop := fun vl s₂ => wpAny (MM w) A (evalPart upper env) (KS3 w A E Q ov vl) E s₂
noncomputable abbrev KS1 (w : World) (A : Around) (env : Env) (lower upper : Option Expr) (E : Value → Shared → Prop) (Q : Value → Shared → Prop) : Value → Shared → Prop := fun ov s₁ => wpAny (MM w) A (evalPart lower env) (KS2 w A env upper E Q ov) E s₁

theorem r_slice {value : Expr} {lower upper : Option Expr} {p pos : Pos} {Q : Value → Shared → Prop} (h : wpAny (MM w) A (eval value env) (KS1 w A env lower upper E Q) E s) :
    wpAny (MM w) A (eval (.Subscript value (.Slice lower upper none p) pos) env) Q E s :=
  r_sub (wpAny_mono h (fun _ _ h₁ => wpAny_Slice (wpAny_mono h₁ (fun _ _ h₂ => wpAny_mono h₂ (fun _ _ h₃ => evalPart_none_step (let ⟨T, id, a, b, c⟩ := h₃; ⟨⟨T, id, b, a⟩, c⟩)) fun _ _ e => e) fun _ _ e => e)) fun _ _ e => e)
theorem p_none {Q : Value → Shared → Prop} (h : Q .none s) : wpAny (MM w) A (evalPart none env) Q E s := wpAny_pure h
theorem p_some {e : Expr} {Q : Value → Shared → Prop} (h : wpAny (MM w) A (eval e env) Q E s) : wpAny (MM w) A (evalPart (some e) env) Q E s := h

theorem slice_ln {a : Addr} {vs vs' : List Value} {vl vu : Value} {lo hi : Option Int} {Q : Value → Shared → Prop} (F : Fm w g o sc env s l P) (hl : Ls a vs s.heap) (pl : IsPart vl lo) (pu : IsPart vu hi) (hsz : vs.length ≤ sizeLine)
    (hv : slicePick vs.toArray lo hi none = vs'.toArray) (h : ∀ b s', s.heap.objs.size ≤ b → offE env b → Fm w g o sc env s' l (fun h => LN b vs' h ∧ P h) → Q (.ref b) s') :
    ItemOn (MM w) A E (.ref a) (.ref s.heap.objs.size) Q { s with heap := s.heap.push { cls := .type "slice", data := .fields #[vl, vu, .none] } } := by
  have F1 := F.push { cls := .type "slice", data := .fields #[vl, vu, .none] } s.toks
  have hl1 := hl.isList.push { cls := .type "slice", data := .fields #[vl, vu, .none] }
  refine ⟨"list", _, list_getitem_lookup, hl1.typeIs, wpAny_getItem_list_slice (lo := lo) (hi := hi) (st := none) hl1 (Heap.IsSliceOf.new ..) pl pu .none (by simp) ?_ (by simpa using hsz)⟩
  have hge : s.heap.objs.size ≤ (s.heap.push { cls := .type "slice", data := .fields #[vl, vu, .none] }).objs.size := by rw [Heap.size_push]; omega
  have off := F1.off (a := (s.heap.push { cls := .type "slice", data := .fields #[vl, vu, .none] }).objs.size) (Nat.le_refl _)
  rw [hv]
  exact h _ _ hge off ((F1.push _ s.toks).pin (stb_ln off) ⟨_, Heap.get?_push_size _ rfl⟩)

theorem slice_ls {a : Addr} {vs vs' : List Value} {vl vu : Value} {lo hi : Option Int} {Q : Value → Shared → Prop} (F : Fm w g o sc env s l P) (hl : Ls a vs s.heap) (pl : IsPart vl lo) (pu : IsPart vu hi) (hsz : vs.length ≤ sizeLine)
    (hv : slicePick vs.toArray lo hi none = vs'.toArray) (h : ∀ b s', s.heap.objs.size ≤ b → offE env b → Fm w g o sc env s' l (fun h => Ls b vs' h ∧ P h) → Q (.ref b) s') :
    ItemOn (MM w) A E (.ref a) (.ref s.heap.objs.size) Q { s with heap := s.heap.push { cls := .type "slice", data := .fields #[vl, vu, .none] } } :=
  slice_ln F hl pl pu hsz hv fun b s' hb off F' => h b s' hb off (F'.weak (Stb.and F.stb (stb_ls _ off)) fun x => ⟨x.1.ls, x.2⟩)

theorem slice_tx {xs xs' : List Nat} {t : Tok} {lo hi : Option (Int × Tok)} {Q : Value → Shared → Prop} (F : Fm w g o sc env s l P) (hsz : xs.length ≤ sizeLine)
    (hv : StrLaws.sliceText (tx xs) (lo.map (·.1)) (hi.map (·.1)) = tx xs') (h : ∀ t s', Fm w g o sc env s' l P → Q (.str (tx xs') t) s') :
    ItemOn (MM w) A E (.str (tx xs) t) (.ref s.heap.objs.size) Q { s with heap := s.heap.push { cls := .type "slice", data := .fields #[partValue lo, partValue hi, .none] } } := by
  refine ⟨"str", _, PySem.F.slot_str_getitem.lookup, typeIs_str _ _ _, wpAny_getItem_str_slice (l := lo) (u := hi) (st := none) ⟨_, Heap.get?_push_size _ rfl, rfl, rfl⟩ rfl ?_⟩
  refine post_val_or_str ⟨?_, fun t' k => ?_⟩
  · exact Nat.le_trans (Txt.slice_le (tx xs) _ _) (by rw [tx_len]; exact hsz)
  · have e : Q (.str (tx xs') t') { s with heap := s.heap.push { cls := .type "slice", data := .fields #[partValue lo, partValue hi, .none] }, toks := k } := h _ _ (F.push _ k)
    rw [← hv] at e
    exact e

theorem st_from (xs : List Nat) (a : Nat) (h : a ≤ xs.length) : StrLaws.sliceText (tx xs) (some (a : Int)) none = tx (xs.drop a) := by
  rw [StrLaws.sliceText_from ⟨by omega, by simp [tx]; omega⟩]
  have e1 : ((a : Int)).toNat = a := by omega
  have e2 : (((tx xs).cps.toList.length : Int) - a).toNat = xs.length - a := by simp [tx]
  rw [e1, e2]
  simp only [tx]
  congr 1
  rw [List.take_of_length_le (by simp)]
theorem st_to (xs : List Nat) (a : Nat) (h : a ≤ xs.length) : StrLaws.sliceText (tx xs) none (some (a : Int)) = tx (xs.take a) := by
  rw [StrLaws.sliceText_to ⟨by omega, by simp [tx]; omega⟩]
  simp [tx]
theorem st_mid (xs : List Nat) (a b : Nat) (h : a ≤ b) (hb : b ≤ xs.length) : StrLaws.sliceText (tx xs) (some (a : Int)) (some (b : Int)) = tx ((xs.drop a).take (b - a)) := by
  rw [StrLaws.sliceText_nat _ h (by rw [tx_len]; exact hb)]
  simp [tx]
theorem st_init (xs : List Nat) (h : xs ≠ []) : StrLaws.sliceText (tx xs) none (some (-1)) = tx xs.dropLast := by
  have hl : 0 < xs.length := List.length_pos_iff.mpr h
  rw [StrLaws.sliceText_to_neg (by omega) (by rw [tx_len]; omega)]
  rw [tx_len, List.dropLast_eq_take]
  have : ((-1 : Int) + xs.length - 0).toNat = xs.length - 1 := by omega
  rw [this]
  simp [tx]

/-! ## texts -/
theorem join_flat : ∀ yss : List (List Nat), Str.join (tx []) (yss.map tx) = tx yss.flatten
  | [] => rfl
  | [y] => by simp [Str.join]
  | y :: z :: r => by
    show tx y ++ tx [] ++ Str.join (tx []) ((z :: r).map tx) = _
    rw [join_flat (z :: r), tx_app, tx_app]
    simp
theorem join_ok {xss : List (List Nat)} (hb : xss.flatten.length ≤ 1000000) : JoinOk (tx []) (xss.map tx) = true := by
  unfold JoinOk
  rw [StrLaws.joinTotal]
  have e2 : ∀ yss : List (List Nat), ((yss.map tx).map (·.length)).sum = yss.flatten.length := by
    intro yss
    induction yss with
    | nil => rfl
    | cons y r ih => simp [tx_len] at ih ⊢; omega
  rw [e2, tx_len]
  simp only [List.length_nil, Nat.mul_zero, Nat.add_zero, Builtin.Str.tooLong, Bool.not_eq_true', decide_eq_false_iff_not]
  have : sizeLine = 16777216 := rfl
  omega
theorem join_tx {a : Addr} {xss : List (List Nat)} {t : Tok} {Q : Value → Shared → Prop} (F : Fm w g o sc env s l P) (hs : Strs a xss s.heap) (hb : xss.flatten.length ≤ sizeLine)
    (h : ∀ t s', Fm w g o sc env s' l P → Q (.str (tx xss.flatten) t) s') : wpAny (MM w) A (call (.builtin "str.join") [.str (tx []) t, .ref a]) Q E s := by
  obtain ⟨ts, hl, rfl⟩ := hs
  have e1 : (ts.map fun p => Value.str (tx p.1) p.2) = strValues (ts.map fun p => (tx p.1, p.2)) := by simp [strValues]
  have hj : ∀ yss : List (List Nat), Str.join (tx []) (yss.map tx) = tx yss.flatten := by
    intro yss
    induction yss with
    | nil => rfl
    | cons y r ih =>
      cases r with
      | nil => simp [Str.join]
      | cons z r =>
        show tx y ++ tx [] ++ Str.join (tx []) ((z :: r).map tx) = _
        rw [ih, tx_app, tx_app]
        simp
  refine SC.join (l := ts.map fun p => (tx p.1, p.2)) (texts := (ts.map (·.1)).map tx) (by rw [← e1]; exact hl.isList) (by simp) ?_ (fun t' k => ?_)
  · unfold JoinOk
    rw [StrLaws.joinTotal]
    have e2 : ∀ yss : List (List Nat), ((yss.map tx).map (·.length)).sum = yss.flatten.length := by
      intro yss
      induction yss with
      | nil => rfl
      | cons y r ih => simp [tx_len] at ih ⊢; omega
    rw [e2, tx_len]
    simp only [List.length_nil, Nat.mul_zero, Nat.add_zero, Builtin.Str.tooLong, Bool.not_eq_true', decide_eq_false_iff_not]
    omega
  · show Q (.str (Builtin.Str.glued _ _) t') _
    rw [StrLaws.glued_eq_join, hj]
    exact h _ _ (F.tok _)

theorem strs_of_are : ∀ {vs : List Value} {ys : List Str}, StrsAre vs ys → ∃ ts : List (List Nat × Tok), vs = ts.map (fun p => .str (tx p.1) p.2) ∧ ys = (ts.map (·.1)).map tx
  | _, _, .nil => ⟨[], rfl, rfl⟩
  | _, _, .cons y t h => by
    obtain ⟨ts, rfl, rfl⟩ := strs_of_are h
    exact ⟨(y.cps.toList, t) :: ts, by simp [tx], by simp [tx]⟩
theorem are_of_strs : ∀ ts : List (List Nat × Tok), StrsAre (ts.map fun p => .str (tx p.1) p.2) ((ts.map (·.1)).map tx)
  | [] => .nil
  | (x, t) :: r => .cons _ t (are_of_strs r)

theorem sorted_tx {a : Addr} {xss : List (List Nat)} {Q : Value → Shared → Prop} (F : Fm w g o sc env s l P) (hs : Strs a xss s.heap) (hb : xss.length < 64)
    (h : ∀ b s' yss, s.heap.objs.size ≤ b → offE env b → yss.Perm xss → sortedS (yss.map tx) = true → Fm w g o sc env s' l (fun h => Strs b yss h ∧ P h) → Q (.ref b) s') :
    wpAny (MM w) A (call (.builtin "sorted") [.ref a]) Q E s := by
  obtain ⟨ts, hl, rfl⟩ := hs
  refine sorted_strs hl.isList (are_of_strs ts) (by simpa using hb) fun out ss' h1 h2 h3 => ?_
  obtain ⟨us, e1, e2⟩ := strs_of_are h1
  have off := F.off (a := s.heap.objs.size + 1) (by omega)
  obtain ⟨e, he⟩ := sortedAll_at s.heap (ts.map fun p => Value.str (tx p.1) p.2) out
  have hsz := Heap.lt_size he
  have F1 := F.gws (s' := { s with heap := sortedAll s.heap (ts.map fun p => Value.str (tx p.1) p.2) out }) (.of_keep (tk := s.toks) (fun _ _ => sortedAll_old) (Nat.le_of_lt (Nat.lt_of_succ_lt hsz)))
  refine h _ _ (us.map (·.1)) (by omega) off ?_ (by rw [← e2]; exact h3) (F1.pin (stb_strs _ off) ⟨us, .new (n := e) (d := none) (sl := #[]) (by rw [he, ← e1]), rfl⟩)
  have := h2
  rw [e2] at this
  have inj := this.map (fun y : Str => y.cps.toList)
  simpa [tx, Function.comp_def] using inj

/-! ## calls -/
noncomputable abbrev KM2 (w : World) (A : Around) (pos : Pos) (items : List (Bool × Sem Value)) (E : Value → Shared → Prop) (Q : Value → Shared → Prop) : Value × List Value → Shared → Prop := fun fx s₂ => wpAny (MM w) A (callWith pos fx.1 fx.2 items []) Q E s₂
noncomputable abbrev KMeth (w : World) (A : Around) (name : Str) (pl : Sem Bool) (pos : Pos) (items : List (Bool × Sem Value)) (E : Value → Shared → Prop) (Q : Value → Shared → Prop) : Value → Shared → Prop := fun ov s₁ => wpAny (MM w) A (getMethod ov name pl) (KM2 w A pos items E Q) E s₁
theorem r_meth {ob : Expr} {name : Str} {apos pos : Pos} {args : List Expr} {pl : Sem Bool} {Q : Value → Shared → Prop}
    (h : wpAny (MM w) A (eval ob env) (KMeth w A name pl pos (backTo pos (starEach args env)) E Q) E s)
    (he : eval (.Call (.Attribute ob name apos) args [] pos) env = (do
      let ov ← eval ob env
      standAt apos.atName
      let (f, first) ← holding [ov] (getMethod ov name pl)
      callWith pos f first (backTo pos (starEach args env)) [])) :
    wpAny (MM w) A (eval (.Call (.Attribute ob name apos) args [] pos) env) Q E s := MethodCall_ h he

noncomputable abbrev KT (w : World) (A : Around) (T : String) (E : Value → Shared → Prop) (Q : Value → Shared → Prop) : List Value → Shared → Prop := fun vs s₁ => wpAny (MM w) A (call (.type T) vs) Q E s₁
theorem cw_type {pos : Pos} {T : String} {e : Expr} {rest : List Expr} {Q : Value → Shared → Prop}
    (h : wpAny (MM w) A (spliced (backTo pos (starEach (e :: rest) env))) (KT w A T E Q) E s)
    (he : starEach (e :: rest) env = (false, eval e env) :: starEach rest env) (hplain : (backTo pos (starEach rest env)).any (·.1) = false) :
    wpAny (MM w) A (callWith pos (.type T) [] (backTo pos (starEach (e :: rest) env)) []) Q E s := callWith_type1 h he hplain

noncomputable def Rg (r : Addr) (a b : Int) (h : Heap) : Prop := ∃ t u v, IsRange h r a b 1 t u v
theorem stb_rg {r : Addr} (a b : Int) (h : offE env r) : Stb env (Rg r a b) := fun _ _ k ⟨t, u, v, e⟩ => ⟨t, u, v, k r _ h e fun t => absurd t (notTb_of_cls fun e => nomatch e)⟩
theorem range_1 {n : Int} {t : Tok} {Q : Value → Shared → Prop} (F : Fm w g o sc env s l P) (h : ∀ r s', Fm w g o sc env s' l (fun h => Rg r 0 n h ∧ P h) → Q (.ref r) s') : wpAny (MM w) A (call (.type "range") [.int n t]) Q E s :=
  call_range_1 (h _ _ ((F.push _ _).pin (stb_rg _ _ (F.off (Nat.le_refl _))) ⟨_, _, _, Heap.get?_push_size _ rfl⟩))
theorem range_2 {a b : Int} {t u : Tok} {Q : Value → Shared → Prop} (F : Fm w g o sc env s l P) (h : ∀ r s', Fm w g o sc env s' l (fun h => Rg r a b h ∧ P h) → Q (.ref r) s') : wpAny (MM w) A (call (.type "range") [.int a t, .int b u]) Q E s :=
  call_range_2 (h _ _ ((F.push _ _).pin (stb_rg _ _ (F.off (Nat.le_refl _))) ⟨_, _, _, Heap.get?_push_size _ rfl⟩))
theorem iter_rg {r : Addr} {a b : Nat} (hh : A.handled = none) (hr : Rg r a b s.heap) (ha : a < 2 ^ 62) (hb : b < 2 ^ 62) : Iter w A (.ref r) s (b - a) (fun i v => ∃ t, v = .int (a + i : Nat) t) := by
  obtain ⟨t, u, v, hr⟩ := hr
  have := iter_range (w := w) (A := A) hh hr (small_one (by omega) (by omega) (by omega) (by omega)) (b - a) (by rw [rangeSize_one]; split <;> omega)
  simpa using this

theorem o_modI {a b : Int} {t u : Tok} {Q : Value → Shared → Prop} (F : Fm w g o sc env s l P) (h : ∀ t s', Fm w g o sc env s' l P → Q (.int (a % b) t) s') (hb : 0 < b) : wpAny (MM w) A (binaryOp .Mod (.int a t) (.int b u)) Q E s :=
  mod_int (by omega) (by rw [Int.fmod_eq_emod_of_nonneg _ (by omega)]; exact h _ _ (F.tok _))
theorem o_divI {a b : Int} {t u : Tok} {Q : Value → Shared → Prop} (F : Fm w g o sc env s l P) (h : ∀ t s', Fm w g o sc env s' l P → Q (.int (a / b) t) s') (hb : 0 < b) (hp : b.natAbs < 1000) : wpAny (MM w) A (binaryOp .FloorDiv (.int a t) (.int b u)) Q E s := by
  refine floordiv_int (by omega) (by rw [Int.fdiv_eq_ediv_of_nonneg _ (by omega)]; exact h _ _ (F.tok _)) (.inl ?_)
  unfold Builtin.divisionGoesByPylong
  have h1 : b.natAbs.log2 ≤ 9 := by
    have : b.natAbs.log2 < 10 := (Nat.log2_lt (by omega)).mpr (by omega)
    omega
  have : (decide ((if (b == 0) = true then 0 else b.natAbs.log2 / 30 + 1) > 300)) = false := by
    rw [if_neg (by simp; omega)]
    simp; omega
  simp only [this, Bool.false_and]
theorem Fm.pins_fst {R : Heap → Prop} (F : Fm w g o sc env s l (fun h => R h ∧ P h)) : R s.heap := F.pins.1
end
end Mine
namespace Mine
set_option maxRecDepth 100000
open PySem PySem.W PyProof.Rows PySem.SeqAt

theorem Rm.u64 {A : Around} {k : Nat} (R : Rm A k) : A.units + 64 < cLine := by have := R.units; unfold cLine; omega
theorem one_lt (a b : Nat) : ((tx [a]).cps.toList < (tx [b]).cps.toList) ↔ a < b := by
  rw [tx_cps, tx_cps, List.cons_lt_cons_iff]
  simp
theorem paired_ints {f : Nat → Int} : ∀ {is : List Nat} {ys : List Value}, Paired (fun i y => ∃ t, y = .int (f i) t) is ys → ∃ ts, ys = intV ts ∧ ts.map (·.1) = is.map f
  | _, _, .nil => ⟨[], rfl, rfl⟩
  | _, _, .cons ⟨t, e⟩ h => by
    obtain ⟨ts, rfl, e2⟩ := paired_ints h
    exact ⟨(_, t) :: ts, by rw [e]; rfl, by simp [e2]⟩
theorem paired_strs {f : Nat → List Nat} : ∀ {is : List Nat} {ys : List Value}, Paired (fun i y => ∃ t, y = .str (tx (f i)) t) is ys → ∃ ts : List (List Nat × Tok), ys = ts.map (fun p => .str (tx p.1) p.2) ∧ ts.map (·.1) = is.map f
  | _, _, .nil => ⟨[], rfl, rfl⟩
  | _, _, .cons ⟨t, e⟩ h => by
    obtain ⟨ts, rfl, e2⟩ := paired_strs h
    exact ⟨(_, t) :: ts, by rw [e]; rfl, by simp [e2]⟩
theorem Ls.ints {a : Addr} {f : Nat → Int} {is : List Nat} {ys : List Value} {h : Heap} (x : Ls a ys h) (p : Paired (fun i y => ∃ t, y = .int (f i) t) is ys) : Ints a (is.map f) h := let ⟨ts, e, r⟩ := paired_ints p; ⟨ts, e ▸ x, r⟩
theorem Ls.strs {a : Addr} {f : Nat → List Nat} {is : List Nat} {ys : List Value} {h : Heap} (x : Ls a ys h) (p : Paired (fun i y => ∃ t, y = .str (tx (f i)) t) is ys) : Strs a (is.map f) h := let ⟨ts, e, r⟩ := paired_strs p; ⟨ts, e ▸ x, r⟩
theorem intsAre (ts : List (Int × Tok)) : IntsAre (intV ts) (ts.map (·.1)) := by
  induction ts with
  | nil => exact .nil
  | cons p r ih => exact .cons _ _ ih

section
variable {w : World} {A : Around} {E : Value → Shared → Prop} {s : Shared} {g : Shared} {o : Bool} {sc : Scope} {env : Env} {l : List (Str × Value)} {P : Heap → Prop} {Q : Value → Shared → Prop}
theorem ge_one {a b : Nat} {t u : Tok} (h : Q (.bool (decide (b ≤ a))) s) : wpAny (MM w) A (compareOp .GtE (.str (tx [a]) t) (.str (tx [b]) u)) Q E s := by
  refine P.ge_str ?_
  rw [show (!decide ((tx [a]).cps.toList < (tx [b]).cps.toList)) = decide (b ≤ a) by simp only [one_lt]; by_cases h : b ≤ a <;> simp [h] <;> omega]
  exact h
theorem le_one {a b : Nat} {t u : Tok} (h : Q (.bool (decide (a ≤ b))) s) : wpAny (MM w) A (compareOp .LtE (.str (tx [a]) t) (.str (tx [b]) u)) Q E s := by
  refine P.le_str ?_
  rw [show (!decide ((tx [b]).cps.toList < (tx [a]).cps.toList)) = decide (a ≤ b) by simp only [one_lt]; by_cases h : a ≤ b <;> simp [h] <;> omega]
  exact h
theorem lt_one {a b : Nat} {t u : Tok} (h : Q (.bool (decide (a < b))) s) : wpAny (MM w) A (compareOp .Lt (.str (tx [a]) t) (.str (tx [b]) u)) Q E s := by
  refine P.lt_str ?_
  rw [show decide ((tx [a]).cps.toList < (tx [b]).cps.toList) = decide (a < b) by simp only [one_lt]]
  exact h
theorem gt_one {a b : Nat} {t u : Tok} (h : Q (.bool (decide (b < a))) s) : wpAny (MM w) A (compareOp .Gt (.str (tx [a]) t) (.str (tx [b]) u)) Q E s := by
  refine P.gt_str ?_
  rw [show decide ((tx [b]).cps.toList < (tx [a]).cps.toList) = decide (b < a) by simp only [one_lt]]
  exact h
theorem eq_tx {a b : List Nat} {t u : Tok} (h : Q (.bool (decide (a = b))) s) : wpAny (MM w) A (compareOp .Eq (.str (tx a) t) (.str (tx b) u)) Q E s := by
  refine P.eq_str ?_
  rw [tx_cps, tx_cps, show (a == b) = decide (a = b) by by_cases h : a = b <;> simp [h]]; exact h
theorem ne_tx {a b : List Nat} {t u : Tok} (h : Q (.bool (!decide (a = b))) s) : wpAny (MM w) A (compareOp .NotEq (.str (tx a) t) (.str (tx b) u)) Q E s := by
  refine P.ne_str ?_
  rw [tx_cps, tx_cps, show (a != b) = !decide (a = b) by by_cases h : a = b <;> simp [h]]; exact h
theorem eq_ints {a b : Addr} {ns ms : List Int} (hu : A.units + 64 < cLine) (ha : Ints a ns s.heap) (hb : Ints b ms s.heap) (h : Q (.bool (decide (ns = ms))) s) : wpAny (MM w) A (compareOp .Eq (.ref a) (.ref b)) Q E s := by
  obtain ⟨ts, h1, rfl⟩ := ha
  obtain ⟨us, h2, rfl⟩ := hb
  exact eq_intsK h1.isList (intsAre ts) h2.isList (intsAre us) hu h
theorem ne_ints {a b : Addr} {ns ms : List Int} (hu : A.units + 64 < cLine) (ha : Ints a ns s.heap) (hb : Ints b ms s.heap) (h : Q (.bool (!decide (ns = ms))) s) : wpAny (MM w) A (compareOp .NotEq (.ref a) (.ref b)) Q E s := by
  obtain ⟨ts, h1, rfl⟩ := ha
  obtain ⟨us, h2, rfl⟩ := hb
  exact ne_intsK h1.isList (intsAre ts) h2.isList (intsAre us) hu h

theorem reads_strs {h : Heap} : ∀ ts : List (List Nat × Tok), ReadsAll h (ts.map fun p => .str (tx p.1) p.2) ((ts.map (·.1)).map fun x => PyData.str (tx x)) []
  | [] => .nil
  | (x, t) :: r => by
    have := ReadsAll.cons (Reads.str (h := h) (tx x) t) (reads_strs r)
    simpa using this
theorem Strs.reads {a : Addr} {xs : List (List Nat)} {h : Heap} (x : Strs a xs h) : Reads h (.ref a) (.list (xs.map fun x => PyData.str (tx x))) [a] := by
  obtain ⟨ts, hl, rfl⟩ := x
  obtain ⟨o, ho, hc, n, hd⟩ := hl.isList
  exact Reads.list ho hc hd (by simpa using reads_strs ts)
noncomputable def SOk (xs : List (List Nat)) : Prop := ∀ x ∈ xs, ∀ c ∈ x, c < 1114112
theorem shaped_strs {xs : List (List Nat)} (hx : SOk xs) : shaped (.list (xs.map fun x => PyData.str (tx x))) = true := by
  have h1 : ∀ ys : List (List Nat), PyData.depthAll (ys.map fun x => PyData.str (tx x)) ≤ 1 := by
    intro ys
    induction ys with
    | nil => simp [PyData.depthAll]
    | cons y r ih => simp only [List.map_cons, PyData.depthAll, PyData.depth]; omega
  have h3 : ∀ ys : List (List Nat), SOk ys → PyData.canLayAll0 (ys.map fun x => PyData.str (tx x)) = true := by
    intro ys
    induction ys with
    | nil => intro _; simp [PyData.canLayAll0]
    | cons y r ih =>
      intro hy
      simp only [List.map_cons, PyData.canLayAll0, PyData.canLay0, ih fun x h => hy x (List.mem_cons_of_mem _ h), Bool.and_true]
      simp only [PyData.strOk, tx, List.all_toArray, List.all_eq_true, decide_eq_true_eq]
      exact hy y (List.mem_cons_self ..)
  have h2 : PyData.depth (.list (xs.map fun x => PyData.str (tx x))) ≤ 64 := by have := h1 xs; simp only [PyData.depth]; omega
  show (PyData.canLay0 (.list (xs.map fun x => PyData.str (tx x))) && decide (PyData.depth (.list (xs.map fun x => PyData.str (tx x))) ≤ 64)) = true
  rw [Bool.and_eq_true]
  exact ⟨by simp only [PyData.canLay0]; exact h3 xs hx, decide_eq_true h2⟩
theorem noMix_strs : ∀ xs ys : List (List Nat), noMixAll (xs.map fun x => PyData.str (tx x)) (ys.map fun x => PyData.str (tx x)) = true
  | [], [] => by simp [noMixAll]
  | [], _ :: _ => by simp [noMixAll]
  | _ :: _, [] => by simp [noMixAll]
  | _ :: r, _ :: q => by simp [noMixAll, noMix, noMix_strs r q]
theorem same_strs : ∀ xs ys : List (List Nat), Spec.sameAll (xs.map fun x => PyData.str (tx x)) (ys.map fun x => PyData.str (tx x)) = decide (xs = ys)
  | [], [] => by simp [Spec.sameAll]
  | [], _ :: _ => by simp [Spec.sameAll]
  | _ :: _, [] => by simp [Spec.sameAll]
  | n :: r, k :: q => by
    simp only [List.map_cons, Spec.sameAll, Spec.same, same_strs r q]
    by_cases h : n = k
    · subst h; simp
    · have : tx n ≠ tx k := fun e => h (tx_inj e)
      simp [h, this]
theorem eq_strs {a b : Addr} {xs ys : List (List Nat)} (hu : A.units + 64 < cLine) (ha : Strs a xs s.heap) (hb : Strs b ys s.heap) (hx : SOk xs) (hy : SOk ys) (h : Q (.bool (decide (xs = ys))) s) : wpAny (MM w) A (compareOp .Eq (.ref a) (.ref b)) Q E s :=
  eq_dataH_same ha.reads hb.reads (shaped_strs hx) (shaped_strs hy) hu (by simp only [noMix]; exact noMix_strs xs ys) (by simp only [Spec.same]; rw [same_strs]; exact h)
theorem ne_strs {a b : Addr} {xs ys : List (List Nat)} (hu : A.units + 64 < cLine) (ha : Strs a xs s.heap) (hb : Strs b ys s.heap) (hx : SOk xs) (hy : SOk ys) (h : Q (.bool (!decide (xs = ys))) s) : wpAny (MM w) A (compareOp .NotEq (.ref a) (.ref b)) Q E s :=
  ne_dataH_same ha.reads hb.reads (shaped_strs hx) (shaped_strs hy) hu (by simp only [noMix]; exact noMix_strs xs ys) (by simp only [Spec.same]; rw [same_strs]; exact h)

theorem Iter.mono {xv : Value} {cnt : Nat} {P P' : Nat → Value → Prop} (x : Iter w A xv s cnt P) (h : ∀ i v, P i v → P' i v) : Iter w A xv s cnt P' := fun Q E k =>
  x Q E fun I fp wr St s₂ W a b c d => k I fp wr St s₂ ⟨W.sub, W.frame, fun i s Q E hi st hQ => W.item i s Q E hi st fun v h' tk hv => hQ v h' tk (h i v hv), W.done, W.self⟩ a b c d
theorem iter_strs {a : Addr} {xs : List (List Nat)} (hh : A.handled = none) (hs : Strs a xs s.heap) : Iter w A (.ref a) s xs.length (fun i v => ∃ x t, xs[i]? = some x ∧ v = .str (tx x) t) := by
  obtain ⟨ts, hl, rfl⟩ := hs
  have := iter_ls (w := w) hh hl
  rw [List.length_map] at this ⊢
  refine this.mono fun i v h => ?_
  rw [List.getElem?_map] at h ⊢
  obtain ⟨⟨x, t⟩, e, rfl⟩ := Option.map_eq_some_iff.mp h
  exact ⟨x, t, by rw [e]; rfl, rfl⟩
theorem iter_ints {a : Addr} {ns : List Int} (hh : A.handled = none) (hs : Ints a ns s.heap) : Iter w A (.ref a) s ns.length (fun i v => ∃ m t, ns[i]? = some m ∧ v = .int m t) := by
  obtain ⟨ts, hl, rfl⟩ := hs
  have := iter_ls (w := w) hh hl
  rw [intV, List.length_map] at this
  rw [List.length_map]
  refine this.mono fun i v h => ?_
  rw [List.getElem?_map] at h ⊢
  obtain ⟨⟨x, t⟩, e, rfl⟩ := Option.map_eq_some_iff.mp h
  exact ⟨x, t, by rw [e]; rfl, rfl⟩

theorem add_ls {a b : Addr} {vs us : List Value} (F : Fm w g o sc env s l P) (ha : Ls a vs s.heap) (hb : Ls b us s.heap) (hsz : vs.length + us.length ≤ sizeLine)
    (h : ∀ D s', s.heap.objs.size ≤ D → offE env D → Fm w g o sc env s' l (fun h => Ls D (vs ++ us) h ∧ P h) → Q (.ref D) s') : wpAny (MM w) A (binaryOp .Add (.ref a) (.ref b)) Q E s := by
  obtain ⟨⟨cls, dd, data, sl⟩, ho, hc, n, hd⟩ := id ha
  obtain ⟨⟨cls2, dd2, data2, sl2⟩, ho2, hc2, n2, hd2⟩ := id hb
  simp only at hc hd hc2 hd2
  subst hc hd hc2 hd2
  refine concat_meets ⟨_, ho, rfl⟩ ⟨_, ho2, rfl⟩ noFill_list_add seq_list_add PySem.F.slot_list_add PySem.F.entry_list_add (PySem.F.args_list_add_2 _ _) (list_addW a b vs.toArray us.toArray n n2 dd dd2 sl sl2 (by simpa using hsz)) ⟨ho, ho2, ?_⟩
  have off := F.off (a := s.heap.objs.size) (Nat.le_refl _)
  rw [show vs.toArray ++ us.toArray = (vs ++ us).toArray by simp]
  exact h _ _ (Nat.le_refl _) off ((F.push _ s.toks).pin (stb_ls _ off) (.new (Heap.get?_push_size _ rfl)))

noncomputable def dts (xs : List Nat) : Nat := xs.count 46
theorem count_dot (xs : List Nat) : Txt.count (tx xs) (tx [46]) = dts xs := by
  rw [show tx [46] = ⟨#[46]⟩ from rfl, count_cnt, tx_cps]
  unfold dts
  induction xs with
  | nil => rfl
  | cons a r ih =>
    rw [cnt_cons, ih, List.count_cons]
    by_cases h : a = 46 <;> simp [h] <;> omega
theorem count_tx {xs : List Nat} {t u : Tok} (F : Fm w g o sc env s l P) (h : ∀ t s', Fm w g o sc env s' l P → Q (.int (dts xs) t) s') : wpAny (MM w) A (call (.builtin "str.count") [.str (tx xs) t, .str (tx [46]) u]) Q E s :=
  SC.count (by rw [count_dot]; exact h _ _ (F.tok _))
theorem len_strs {a : Addr} {xs : List (List Nat)} (F : Fm w g o sc env s l P) (hs : Strs a xs s.heap) (hb : xs.length < 2 ^ 63) (h : ∀ t s', Fm w g o sc env s' l P → Q (.int xs.length t) s') : wpAny (MM w) A (call (.builtin "len") [.ref a]) Q E s := by
  obtain ⟨ts, hl, rfl⟩ := hs
  rw [List.length_map] at h hb
  exact len_ls F hl (by rw [List.length_map]; exact hb) (by rw [List.length_map]; exact h)
theorem len_ints {a : Addr} {ns : List Int} (F : Fm w g o sc env s l P) (hs : Ints a ns s.heap) (hb : ns.length < 2 ^ 63) (h : ∀ t s', Fm w g o sc env s' l P → Q (.int ns.length t) s') : wpAny (MM w) A (call (.builtin "len") [.ref a]) Q E s := by
  obtain ⟨ts, hl, rfl⟩ := hs
  rw [List.length_map] at h hb
  exact len_ls F hl (by rw [intV, List.length_map]; exact hb) (by rw [intV, List.length_map]; exact h)
theorem Ints.list {a : Addr} {ns : List Int} {h : Heap} (x : Ints a ns h) : ∃ vs, Ls a vs h := let ⟨_, e, _⟩ := x; ⟨_, e⟩
theorem Strs.list {a : Addr} {xs : List (List Nat)} {h : Heap} (x : Strs a xs h) : ∃ vs, Ls a vs h := let ⟨_, e, _⟩ := x; ⟨_, e⟩
theorem sub_ints {a : Addr} {ns : List Int} {k : Nat} {i : Int} {t : Tok} {m : Int} (hl : Ints a ns s.heap) (hi : i = k) (hk : k < 2 ^ 63) (hv : ns[k]? = some m) (h : ∀ t, Q (.int m t) s) : KItem w A E Q (.ref a) (.int i t) s :=
  let ⟨_, x⟩ := hl.list; sub_list x (item_ints hl hi hk hv h)
theorem sub_strs {a : Addr} {xs : List (List Nat)} {k : Nat} {i : Int} {t : Tok} {m : List Nat} (hl : Strs a xs s.heap) (hi : i = k) (hk : k < 2 ^ 63) (hv : xs[k]? = some m) (h : ∀ t, Q (.str (tx m) t) s) : KItem w A E Q (.ref a) (.int i t) s :=
  let ⟨_, x⟩ := hl.list; sub_list x (item_strs hl hi hk hv h)
theorem gmr {α : Type} (f : Nat → α) {n k : Nat} (h : k < n) : ((List.range n).map f)[k]? = some (f k) := by simp [h]
theorem Ls.off {a : Addr} {vs : List Value} (x : Ls a vs s.heap) (F : Fm w g o sc env s l P) : offE env a := let ⟨_, e, c, _, d⟩ := x; Sq.off F e (sq_seq c d)
theorem Ints.off {a : Addr} {ns : List Int} (x : Ints a ns s.heap) (F : Fm w g o sc env s l P) : offE env a := let ⟨_, e, _⟩ := x; e.off F
theorem Strs.off {a : Addr} {xs : List (List Nat)} (x : Strs a xs s.heap) (F : Fm w g o sc env s l P) : offE env a := let ⟨_, e, _⟩ := x; e.off F
/-- back from a call, with an object -/
theorem Fm.backI {a : Addr} {ns : List Int} {s' : Shared} (F : Fm w g o sc env s l P) (G : Gw s s') (x : Ints a ns s'.heap) : Fm w g o sc env s' l (fun h => Ints a ns h ∧ P h) := (F.gws G).pin (stb_ints _ (x.off (F.gws G))) x
theorem Fm.backS {a : Addr} {xs : List (List Nat)} {s' : Shared} (F : Fm w g o sc env s l P) (G : Gw s s') (x : Strs a xs s'.heap) : Fm w g o sc env s' l (fun h => Strs a xs h ∧ P h) := (F.gws G).pin (stb_strs _ (x.off (F.gws G))) x
end
end Mine
namespace Mine
set_option maxRecDepth 100000
open PySem PySem.W PyProof.Rows PySem.SeqAt

section
variable {w : World} {A : Around} {E : Value → Shared → Prop} {s : Shared} {g : Shared} {o : Bool} {sc : Scope} {env : Env} {l : List (Str × Value)} {P : Heap → Prop}

theorem list_tx {xs : List Nat} {t : Tok} {Q : Value → Shared → Prop} (hh : A.handled = none) (F : Fm w g o sc env s l P) (hb : xs.length ≤ sizeLine)
    (h : ∀ s', Fm w g o sc env s' l P → Strs s.heap.objs.size (xs.map ([·])) s'.heap → Q (.ref s.heap.objs.size) s') : wpAny (MM w) A (call (.type "list") [.str (tx xs) t]) Q E s := by
  have hsz : (tx xs).cps.size = xs.length := by simp [tx]
  refine call_list_str (hn := by rw [hsz]; exact hb) hh (tx xs) t fun h' tk acc c k e it => ?_
  obtain ⟨h1, h2⟩ := it
  rw [hsz] at h1
  have key : ∀ (ys : List Nat) (as : List Value), as.length = ys.length → (∀ (j : Nat) (v : Value), as[j]? = some v → ∃ (c : Nat) (u : Tok), ys[j]? = some c ∧ v = Value.str (tx [c]) u) → ∃ ts : List (List Nat × Tok), as = ts.map (fun p => Value.str (tx p.1) p.2) ∧ ts.map (·.1) = ys.map ([·]) := by
    intro ys
    induction ys with
    | nil => intro as hl _; exact ⟨[], by simpa using hl, rfl⟩
    | cons y ys ih =>
      intro as hl hv
      cases as with
      | nil => simp at hl
      | cons a as =>
        obtain ⟨ts, rfl, e2⟩ := ih as (by simpa using hl) fun j v hj => by simpa using hv (j + 1) v (by simpa using hj)
        obtain ⟨c, u, hc, rfl⟩ := hv 0 a rfl
        simp at hc; subst hc
        exact ⟨([y], u) :: ts, rfl, by simp [e2]⟩
  obtain ⟨ts, e1, e2⟩ := key xs acc.toList (by simpa using h1) fun j v hj => by
    obtain ⟨c, u, hc, rfl⟩ := h2 j v (by simpa using hj)
    exact ⟨c, u, by simpa [tx] using hc, rfl⟩
  refine h _ (F.gws (.of_keep k (Nat.le_of_lt (Heap.lt_size e)))) ⟨ts, ?_, e2⟩
  rw [← e1]
  exact .new (n := c) (d := none) (sl := #[]) (by rw [e])

theorem set_ls {a : Addr} {vs : List Value} {k : Nat} {i : Int} {t : Tok} {v : Value} {P' : Heap → Prop} {Q : Unit → Shared → Prop} (F : Fm w g o sc env s l P) (hg : g.heap.objs.size ≤ a) (hl : Ls a vs s.heap) (hi : i = k) (hk : k < vs.length) (hk2 : k < 2 ^ 63)
    (hst : Stb env P') (hP : ∀ h', Heap.SameBut a s.heap h' → Ls a (vs.set k v) h' → P' h') (h : ∀ s', Fm w g o sc env s' l P' → Q () s') : wpAny (MM w) A (setItem (.ref a) (.int i t) v) Q E s := by
  refine wpAny_setItem_list hl (by omega) (by omega) (by simp; omega) fun h' hl' hs' => ?_
  have hl'' : Ls a (vs.set k v) h' := by
    subst hi
    show h'.IsList a (vs.set k v).toArray
    simpa using hl'
  exact h _ (F.wstep (wr := [a]) (fun b hb => by simp at hb; subst hb; exact ⟨hg, hl.off F⟩) (fun b ob hb e => hs'.extBut b ob (by simpa using hb) e) s.toks hst (hP h' hs' hl''))

theorem set_strs {a : Addr} {xs : List (List Nat)} {k : Nat} {i : Int} {t u : Tok} {x : List Nat} {P' : Heap → Prop} {Q : Unit → Shared → Prop} (F : Fm w g o sc env s l P) (hg : g.heap.objs.size ≤ a) (hl : Strs a xs s.heap) (hi : i = k) (hk : k < xs.length) (hk2 : k < 2 ^ 63)
    (hst : Stb env P') (hP : ∀ h', Heap.SameBut a s.heap h' → Strs a (xs.set k x) h' → P' h') (h : ∀ s', Fm w g o sc env s' l P' → Q () s') : wpAny (MM w) A (setItem (.ref a) (.int i t) (.str (tx x) u)) Q E s := by
  obtain ⟨ts, hl, rfl⟩ := hl
  refine set_ls F hg hl hi (by simpa using hk) hk2 hst (fun h' hs x' => hP h' hs ⟨ts.set k (x, u), ?_, by simp⟩) h
  rw [List.map_set]; exact x'

noncomputable abbrev KA3 (w : World) (A : Around) (E : Value → Shared → Prop) (Q : Flow → Shared → Prop) (v ov : Value) : Value → Shared → Prop := fun iv s₃ => wpAny (MM w) A (setItem ov iv v) (fun _ => Q .next) E s₃
noncomputable abbrev KA2 (w : World) (A : Around) (env : Env) (i : Expr) (E : Value → Shared → Prop) (Q : Flow → Shared → Prop) (v : Value) : Value → Shared → Prop := fun ov s₂ => wpAny (MM w) A (eval i env) (KA3 w A E Q v ov) E s₂
noncomputable abbrev KA1 (w : World) (A : Around) (env : Env) (ob i : Expr) (E : Value → Shared → Prop) (Q : Flow → Shared → Prop) : Value → Shared → Prop := fun v s₁ => wpAny (MM w) A (eval ob env) (KA2 w A env i E Q v) E s₁
theorem e_set {ob i value : Expr} {pos' pos : Pos} {Q : Flow → Shared → Prop} (h : wpAny (MM w) A (eval value env) (KA1 w A env ob i E Q) E s)
    (hs : swapsWith value (some (.Subscript ob i pos')) pos.line env = pure false) : wpAny (MM w) A (exec (.Assign [.Subscript ob i pos'] value pos) env) Q E s := wpAny_Assign_Subscript h hs

noncomputable abbrev KAnd (w : World) (A : Around) (env : Env) (rest : List Expr) (E : Value → Shared → Prop) (Q : Bool → Shared → Prop) : Bool → Shared → Prop := fun b s₁ => if b then wpAny (MM w) A (allTrue .And rest env) Q E s₁ else Q false s₁
noncomputable abbrev KOr (w : World) (A : Around) (env : Env) (rest : List Expr) (E : Value → Shared → Prop) (Q : Bool → Shared → Prop) : Bool → Shared → Prop := fun b s₁ => if b then Q true s₁ else wpAny (MM w) A (allTrue .Or rest env) Q E s₁
noncomputable abbrev KNot (Q : Bool → Shared → Prop) : Bool → Shared → Prop := fun b => Q (!b)
theorem t_and {x : Expr} {rest : List Expr} {Q : Bool → Shared → Prop} (h : wpAny (MM w) A (isTrue x env (eval x env)) (KAnd w A env rest E Q) E s) : wpAny (MM w) A (allTrue .And (x :: rest) env) Q E s := wpAny_allTrue_And_cons h
theorem t_or {x : Expr} {rest : List Expr} {Q : Bool → Shared → Prop} (h : wpAny (MM w) A (isTrue x env (eval x env)) (KOr w A env rest E Q) E s) : wpAny (MM w) A (allTrue .Or (x :: rest) env) Q E s := wpAny_allTrue_Or_cons h
theorem t_bool {op : BoolOp} {values : List Expr} {pos : Pos} {wh : Sem Value} {Q : Bool → Shared → Prop} (h : wpAny (MM w) A (allTrue op values env) Q E s) : wpAny (MM w) A (isTrue (.BoolOp op values pos) env wh) Q E s := wpAny_isTrue_BoolOp h
theorem t_not {x : Expr} {pos : Pos} {wh : Sem Value} {Q : Bool → Shared → Prop} (h : wpAny (MM w) A (isTrue x env (eval x env)) (KNot Q) E s) : wpAny (MM w) A (isTrue (.UnaryOp .Not x pos) env wh) Q E s := wpAny_isTrue_Not h
theorem t_name {x : Str} {pos : Pos} {Q : Bool → Shared → Prop} (h : wpAny (MM w) A (eval (.Name x pos) env) (KTr w A E Q) E s) : wpAny (MM w) A (isTrue (.Name x pos) env (eval (.Name x pos) env)) Q E s := wpAny_isTrue_value h
theorem and_nil {Q : Bool → Shared → Prop} (h : Q true s) : wpAny (MM w) A (allTrue .And [] env) Q E s := wpAny_allTrue_And_nil h
theorem or_nil {Q : Bool → Shared → Prop} (h : Q false s) : wpAny (MM w) A (allTrue .Or [] env) Q E s := wpAny_allTrue_Or_nil h
theorem and_t {rest : List Expr} {Q : Bool → Shared → Prop} {c : Bool} (hc : c = true) (h : wpAny (MM w) A (allTrue .And rest env) Q E s) : KAnd w A env rest E Q c s := by subst hc; exact h
theorem and_f {rest : List Expr} {Q : Bool → Shared → Prop} {c : Bool} (hc : c = false) (h : Q false s) : KAnd w A env rest E Q c s := by subst hc; exact h
theorem or_t {rest : List Expr} {Q : Bool → Shared → Prop} {c : Bool} (hc : c = true) (h : Q true s) : KOr w A env rest E Q c s := by subst hc; exact h
theorem or_f {rest : List Expr} {Q : Bool → Shared → Prop} {c : Bool} (hc : c = false) (h : wpAny (MM w) A (allTrue .Or rest env) Q E s) : KOr w A env rest E Q c s := by subst hc; exact h

/-- while -/
noncomputable abbrev KNx (I : Nat → Shared → Prop) (n : Nat) : Flow → Shared → Prop := fun f s₃ => f = .next ∧ ∃ m, m < n ∧ I m s₃
noncomputable abbrev KWh (w : World) (A : Around) (env : Env) (body : List Stmt) (I : Nat → Shared → Prop) (n : Nat) (E : Value → Shared → Prop) (Q : Flow → Shared → Prop) : Bool → Shared → Prop := fun b s₂ => if b then wpAny (MM w) A (execs body env) (KNx I n) E s₂ else Q .next s₂
theorem wh_t {body : List Stmt} {I : Nat → Shared → Prop} {n : Nat} {Q : Flow → Shared → Prop} {c : Bool} (hc : c = true) (h : wpAny (MM w) A (execs body env) (KNx I n) E s) : KWh w A env body I n E Q c s := by subst hc; exact h
theorem wh_f {body : List Stmt} {I : Nat → Shared → Prop} {n : Nat} {Q : Flow → Shared → Prop} {c : Bool} (hc : c = false) (h : Q .next s) : KWh w A env body I n E Q c s := by subst hc; exact h
theorem e_while {test : Expr} {body : List Stmt} {pos : Pos} {Q : Flow → Shared → Prop} (I : Nat → Shared → Prop) (n : Nat) (h : I n s)
    (turn : ∀ n s E', I n s → wpAny (MM w) A (isTrue test env (eval test env)) (KWh w A env body I n E' Q) E' s) : wpAny (MM w) A (exec (.While test body [] pos) env) Q E s := by
  refine wpAny_While (codeAny_whileLoop I (fun n s hI => wpAny_mono (turn n s _ hI) (fun b s₂ h₂ => ?_) fun _ _ e => e) n h)
  cases b with
  | false => exact wpAny_execs_nil h₂
  | true => exact wpAny_mono (M := MM w) h₂ (fun f s₃ ⟨hf, h₃⟩ => by subst hf; exact h₃) fun _ _ e => e

theorem Strs.of_vals {a : Addr} {ts : List (List Nat × Tok)} {vs : List Value} {h : Heap} (e : vs = ts.map fun p => .str (tx p.1) p.2) (x : Ls a vs h) : Strs a (ts.map (·.1)) h := ⟨ts, e ▸ x, rfl⟩
theorem slice_strs {a : Addr} {xs : List (List Nat)} {f : ∀ {α : Type}, List α → List α} {vl vu : Value} {lo hi : Option Int} {Q : Value → Shared → Prop} (F : Fm w g o sc env s l P) (hl : Strs a xs s.heap) (pl : IsPart vl lo) (pu : IsPart vu hi) (hsz : xs.length ≤ sizeLine)
    (hf : ∀ (α β : Type) (k : α → β) (l : List α), f (l.map k) = (f l).map k) (hv : ∀ vs : List Value, vs.length = xs.length → slicePick vs.toArray lo hi none = (f vs).toArray) (h : ∀ b s', s.heap.objs.size ≤ b → offE env b → Fm w g o sc env s' l (fun h => Strs b (f xs) h ∧ P h) → Q (.ref b) s') :
    ItemOn (MM w) A E (.ref a) (.ref s.heap.objs.size) Q { s with heap := s.heap.push { cls := .type "slice", data := .fields #[vl, vu, .none] } } := by
  obtain ⟨ts, hl, rfl⟩ := hl
  refine slice_ls F hl pl pu (by simpa using hsz) (hv _ (by simp)) fun b s' hb off F' => h b s' hb off ?_
  exact F'.weak (Stb.and F.stb (stb_strs _ off)) fun x => ⟨⟨f ts, by have := x.1; rwa [hf] at this, (hf _ _ _ _).symm⟩, x.2⟩
theorem slice_from {a : Addr} {xs : List (List Nat)} {i : Int} {k : Nat} {t : Tok} {Q : Value → Shared → Prop} (F : Fm w g o sc env s l P) (hl : Strs a xs s.heap) (hi : i = k) (hsz : xs.length ≤ sizeLine)
    (h : ∀ b s', s.heap.objs.size ≤ b → offE env b → Fm w g o sc env s' l (fun h => Strs b (xs.drop k) h ∧ P h) → Q (.ref b) s') :
    ItemOn (MM w) A E (.ref a) (.ref s.heap.objs.size) Q { s with heap := s.heap.push { cls := .type "slice", data := .fields #[.int i t, .none, .none] } } :=
  slice_strs (f := fun l => l.drop k) F hl (.int i t) .none hsz (fun _ _ _ _ => by simp [List.map_drop]) (fun vs _ => by subst hi; exact slicePick_from' _ _) h
theorem slice_init {a : Addr} {xs : List (List Nat)} {t : Tok} {Q : Value → Shared → Prop} (F : Fm w g o sc env s l P) (hl : Strs a xs s.heap) (hsz : xs.length ≤ sizeLine)
    (h : ∀ b s', s.heap.objs.size ≤ b → offE env b → Fm w g o sc env s' l (fun h => Strs b xs.dropLast h ∧ P h) → Q (.ref b) s') :
    ItemOn (MM w) A E (.ref a) (.ref s.heap.objs.size) Q { s with heap := s.heap.push { cls := .type "slice", data := .fields #[.none, .int (-1) t, .none] } } :=
  slice_strs (f := fun l => l.dropLast) F hl .none (.int (-1) t) hsz (fun _ _ _ _ => by simp [List.map_dropLast]) (fun vs _ => by rw [show (some (-1 : Int)) = some (-((1 : Nat) : Int)) from rfl, slicePick_butLast _ 1 (Nat.le_refl _)]; simp [List.dropLast_eq_take]) h
theorem slice_initN {a : Addr} {xs : List (List Nat)} {t : Tok} {Q : Value → Shared → Prop} (F : Fm w g o sc env s l P) (hl : Strs a xs s.heap) (hsz : xs.length ≤ sizeLine)
    (h : ∀ b s', s.heap.objs.size ≤ b → offE env b → Fm w g o sc env s' l (fun h => SN b xs.dropLast h ∧ P h) → Q (.ref b) s') :
    ItemOn (MM w) A E (.ref a) (.ref s.heap.objs.size) Q { s with heap := s.heap.push { cls := .type "slice", data := .fields #[.none, .int (-1) t, .none] } } := by
  obtain ⟨ts, hl, rfl⟩ := hl
  refine slice_ln (vs' := ts.dropLast.map fun p => Value.str (tx p.1) p.2) F hl .none (.int (-1) t) (by simpa using hsz) ?_ fun b s' hb off F' => h b s' hb off ?_
  · rw [show (some (-1 : Int)) = some (-((1 : Nat) : Int)) from rfl, slicePick_butLast _ 1 (Nat.le_refl _)]; simp [List.dropLast_eq_take, List.map_take]
  · exact F'.weak (Stb.and F.stb (stb_sn off)) fun x => ⟨⟨ts.dropLast, x.1, by simp [List.map_dropLast]⟩, x.2⟩
theorem add_strs {a b : Addr} {xs ys : List (List Nat)} {Q : Value → Shared → Prop} (F : Fm w g o sc env s l P) (ha : Strs a xs s.heap) (hb : Strs b ys s.heap) (hsz : xs.length + ys.length ≤ sizeLine)
    (h : ∀ D s', s.heap.objs.size ≤ D → offE env D → Fm w g o sc env s' l (fun h => Strs D (xs ++ ys) h ∧ P h) → Q (.ref D) s') : wpAny (MM w) A (binaryOp .Add (.ref a) (.ref b)) Q E s := by
  obtain ⟨ts, ha, rfl⟩ := ha
  obtain ⟨us, hb, rfl⟩ := hb
  refine add_ls F ha hb (by simpa using hsz) fun D s' hD off F' => h D s' hD off ?_
  exact F'.weak (Stb.and F.stb (stb_strs _ off)) fun x => ⟨⟨ts ++ us, by simpa using x.1, by simp⟩, x.2⟩
theorem Fm.pins_of (F : Fm w g o sc env s l P) : P s.heap := F.pins
noncomputable abbrev KU (w : World) (A : Around) (E : Value → Shared → Prop) (Q : Value → Shared → Prop) : Value → Shared → Prop := fun v s₁ => wpAny (MM w) A (unaryOp .USub v) Q E s₁
theorem v_neg {x : Expr} {pos : Pos} {Q : Value → Shared → Prop} (h : wpAny (MM w) A (eval x env) (KU w A E Q) E s) : wpAny (MM w) A (eval (.UnaryOp .USub x pos) env) Q E s := wpAny_UnaryOp h
theorem u_neg {a : Int} {t : Tok} {Q : Value → Shared → Prop} (F : Fm w g o sc env s l P) (h : ∀ t s', Fm w g o sc env s' l P → Q (.int (-a) t) s') : wpAny (MM w) A (unaryOp .USub (.int a t)) Q E s := PySem.P.neg_int (h _ _ (F.tok _))
theorem cur {G : Prop} (F : Fm w g o sc env s l P) (k : Fm w g o sc env s l P → G) : G := k F
end
theorem gl_CRLF (P : Params) : glob P "CRLF" = some (.str (tx [13, 10]) 349) := by kernel_rfl
theorem gl_EMPTY (P : Params) : glob P "EMPTYSTRING" = some (.str (tx []) 360) := by kernel_rfl
end Mine
namespace Mine
set_option maxRecDepth 100000
open PySem PySem.W PyProof.Rows PySem.SeqAt

section
variable {w : World} {A : Around} {E : Value → Shared → Prop} {s : Shared} {g : Shared} {o : Bool} {sc : Scope} {env : Env} {l : List (Str × Value)} {P : Heap → Prop} {Q : Value → Shared → Prop}
theorem size_of_keeps {h h' : Heap} (k : ∀ b o, h.get? b = some o → h'.get? b = some o) {L : Addr} {m : Str → Option Value} : h.Ns L m → L < h'.objs.size := fun n => Heap.Ns.lt (n.keeps k)
theorem Fm.kept (F : Fm w g o sc env s l P) {h' : Heap} {tk : Nat} (k : ∀ b ob, s.heap.get? b = some ob → h'.get? b = some ob) (hs : s.heap.objs.size ≤ h'.objs.size) : Fm w g o sc env { s with heap := h', toks := tk } l P := F.gws (.of_keep k hs)
theorem Fm.keptN (F : Fm w g o sc env s l P) {h' : Heap} {tk : Nat} (k : ∀ b ob, s.heap.get? b = some ob → h'.get? b = some ob) : Fm w g o sc env { s with heap := h', toks := tk } l P := by
  obtain ⟨m, cm, h1, h2, h3⟩ := F.fr
  have h1' := h1.keeps k
  have gs : g.heap.objs.size ≤ h'.objs.size := Nat.le_trans F.fresh (Nat.le_of_lt (Heap.Ns.lt h1'))
  have c1 : ∀ y c, env.cells.lookup y = some c → h'.IsCell c (cm y) := fun y c e => let ⟨ob, e', d⟩ := h2 y c e; ⟨ob, k _ _ e', d⟩
  exact ⟨F.hsc, F.gb, F.ce, F.nd, F.wd, ⟨fun b ob e t => k b ob (F.gw.keep b ob e t), gs, F.gw.os, F.gw.gens, fun x => (F.gw.tab x).keeps k⟩, F.fresh, ⟨m, cm, h1', c1, h3⟩, F.apart, F.ne, fun y c hy => (c1 y c (lookup_of_mem F.nd hy)).lt, F.own, F.stb, F.stb _ _ (fun b ob _ e _ => k b ob e) F.pins⟩
theorem c_sum {a : Addr} {ns : List Int} (F : Fm w g o sc env s l P) (hh : A.handled = none) (ha : Ints a ns s.heap) (h : ∀ j t s', Fm w g o sc env s' l P → Q (.int j t) s') : wpAny (MM w) A (call (.builtin "sum") [.ref a]) Q E s := by
  obtain ⟨ts, hl, _⟩ := ha
  exact sum_intListG (xs := ts.toArray) hh (by simpa [intItems, intV] using hl.isList) fun h' tk t' hk => h _ _ _ (F.keptN hk)
theorem c_max {a : Addr} {ns : List Int} (F : Fm w g o sc env s l P) (hh : A.handled = none) (ha : Ints a ns s.heap) (hne : ns ≠ []) (h : ∀ M t s', M ∈ ns → (∀ b ∈ ns, b ≤ M) → Fm w g o sc env s' l P → Q (.int M t) s') :
    wpAny (MM w) A (call (.builtin "max") [.ref a]) Q E s := by
  obtain ⟨ts, hl, rfl⟩ := ha
  have hsz : 0 < ts.toArray.size := by
    cases ts with
    | nil => exact absurd rfl hne
    | cons => simp
  refine max_intList (xs := ts.toArray) hh (by simpa [intItems, intV] using hl.isList) hsz fun v h' tk hv hk => ?_
  obtain ⟨t, rfl⟩ := intItems_at hv
  obtain ⟨h1, h2⟩ := argBest_gt (numAt ts.toArray) (ts.toArray.size - 1)
  refine h _ t _ ?_ (fun b hb => ?_) (F.keptN hk)
  · rw [numAt_eq]; exact getD_mem (by rw [List.length_map]; simp at hsz h1 ⊢; omega)
  · obtain ⟨j, hj, rfl⟩ := mem_getD hb
    have := h2 j (by rw [List.length_map] at hj; simp; omega)
    rw [numAt_eq] at this
    exact this
theorem c_min {x : Int} {t u : Tok} (F : Fm w g o sc env s l P) (hh : A.handled = none) (h : ∀ t' s', Fm w g o sc env s' l P → Q (.int (min 1 x) t') s') : wpAny (MM w) A (call (.builtin "min") [.int 1 t, .int x u]) Q E s := by
  refine min_two_ints hh fun h' tk hk => ?_
  by_cases hx : x < 1
  · rw [if_pos hx]; have := h u _ (F.keptN (tk := tk) hk); rwa [Int.min_eq_right (by omega)] at this
  · rw [if_neg hx]; have := h t _ (F.keptN (tk := tk) hk); rwa [Int.min_eq_left (by omega)] at this
theorem o_dots {n : Int} {t u : Tok} (F : Fm w g o sc env s l P) (h1 : n ≤ 1) (h0 : 0 ≤ n) (h : ∀ t' s', Fm w g o sc env s' l P → Q (.str (tx (List.replicate n.toNat 46)) t') s') : wpAny (MM w) A (binaryOp .Mult (.str (tx [46]) t) (.int n u)) Q E s := by
  rcases (show n = 0 ∨ n = 1 by omega) with rfl | rfl
  · exact SB.mul ⟨by decide, fun a => absurd (by decide) a, fun a => absurd (by decide) a⟩ fun t' k => h _ _ (F.tok _)
  · exact SB.mul ⟨by decide, fun _ a => by simp at a, fun _ a => by simp at a⟩ fun t' k => h _ _ (F.tok _)
theorem eq_tup {a b : Addr} {x : List Nat} {n : Int} {t1 t2 t3 t4 : Tok} (hu : A.units + 64 < cLine) (ha : s.heap.IsTuple a #[.str (tx x) t1, .int n t2]) (hb : s.heap.IsTuple b #[.str (tx x) t3, .int n t4]) (hx : ∀ c ∈ x, c < 1114112) (h : Q (.bool true) s) :
    wpAny (MM w) A (compareOp .Eq (.ref a) (.ref b)) Q E s := by
  have rd : ∀ {a : Addr} {t1 t2 : Tok}, s.heap.IsTuple a #[.str (tx x) t1, .int n t2] → ∃ as, Reads s.heap (.ref a) (.tuple [.str (tx x), .int n]) as := fun {a t1 t2} ⟨o, ho, hc, k, hd⟩ =>
    ⟨_, Reads.tuple ho hc hd (ReadsAll.cons (Reads.str _ _) (ReadsAll.cons (Reads.int _ _) .nil))⟩
  obtain ⟨as, ra⟩ := rd ha
  obtain ⟨bs, rb⟩ := rd hb
  have sh : shaped (.tuple [.str (tx x), .int n]) = true := by
    show (PyData.canLay0 _ && decide (PyData.depth _ ≤ 64)) = true
    rw [Bool.and_eq_true]
    refine ⟨?_, by simp [PyData.depth, PyData.depthAll]⟩
    simp only [PyData.canLay0, PyData.canLayAll0, Bool.and_true]
    simp only [PyData.strOk, tx, List.all_toArray, List.all_eq_true, decide_eq_true_eq]
    exact hx
  refine eq_dataH_same ra rb sh sh hu (by simp [noMix, noMixAll]) ?_
  have : PySem.Spec.same (.tuple [.str (tx x), .int n]) (.tuple [.str (tx x), .int n]) = true := by simp [PySem.Spec.same, PySem.Spec.sameAll]
  rw [this]; exact h
end
end Mine
namespace Mine
set_option maxRecDepth 100000
open PySem PySem.W PyProof.Rows PySem.SeqAt PySem.Builtin PySem.Builtin.Re

noncomputable def Pat (p : Addr) (code : Array Nat) (h : Heap) : Prop := ∃ o v0 v1 c oc vs n, h.get? p = some o ∧ o.cls = .type "re.Pattern" ∧ o.dict = none ∧ o.data = .fields #[v0, v1, .int 0 0, .none, .none, .ref c, .int 0 0] ∧
  h.get? c = some oc ∧ oc.cls = .type "tuple" ∧ oc.data = .seq vs n ∧ (vs.map reRawOf).map (·.toNat) = code
theorem Pat.gw {p : Addr} {code : Array Nat} {s s' : Shared} (x : Pat p code s.heap) (G : Gw s s') : Pat p code s'.heap :=
  let ⟨o, v0, v1, c, oc, vs, n, e1, e2, e3, e4, e5, e6, e7, e8⟩ := x
  ⟨o, v0, v1, c, oc, vs, n, G.keep _ _ e1 fun t => absurd t (notTb_of_cls (by rw [e2]; exact fun e => nomatch e)), e2, e3, e4, G.keep _ _ e5 fun t => absurd t (notTb_of_cls (by rw [e6]; exact fun e => nomatch e)), e6, e7, e8⟩
theorem kx_pat1 (P : Params) : ∃ v0 v1 vs n, (KX P).lookup 43 = some ⟨.type "re.Pattern", none, .fields #[v0, v1, .int 0 0, .none, .none, .ref 42, .int 0 0], #[]⟩ ∧ (KX P).lookup 42 = some ⟨.type "tuple", none, .seq vs n, #[]⟩ ∧ (vs.map reRawOf).map (·.toNat) = code1 := ⟨_, _, _, _, rfl, rfl, by kernel_rfl⟩
theorem kx_pat2 (P : Params) : ∃ v0 v1 vs n, (KX P).lookup 48 = some ⟨.type "re.Pattern", none, .fields #[v0, v1, .int 0 0, .none, .none, .ref 47, .int 0 0], #[]⟩ ∧ (KX P).lookup 47 = some ⟨.type "tuple", none, .seq vs n, #[]⟩ ∧ (vs.map reRawOf).map (·.toNat) = code2 := ⟨_, _, _, _, rfl, rfl, by kernel_rfl⟩
theorem Wd.pat1 {w : World} {h : Heap} (W : Wd w h) : Pat 43 code1 h := let ⟨_, _, _, _, e, e', r⟩ := kx_pat1 w.params; ⟨_, _, _, 42, _, _, _, W.k 43 _ (by decide) e, rfl, rfl, rfl, W.k 42 _ (by decide) e', rfl, rfl, r⟩
theorem Wd.pat2 {w : World} {h : Heap} (W : Wd w h) : Pat 48 code2 h := let ⟨_, _, _, _, e, e', r⟩ := kx_pat2 w.params; ⟨_, _, _, 47, _, _, _, W.k 48 _ (by decide) e, rfl, rfl, rfl, W.k 47 _ (by decide) e', rfl, rfl, r⟩

/-- only a new list was written -/
theorem Gw.but {s s' : Shared} (G : Gw s s') {L : Addr} (hL : s.heap.objs.size ≤ L) {h' : Heap} (hs : Heap.SameBut L s'.heap h') (tk : Nat) : Gw s { s' with heap := h', toks := tk } :=
  ⟨fun b o e t => hs.extBut b o (Nat.ne_of_lt (Nat.lt_of_lt_of_le (Heap.lt_size e) hL)) (G.keep b o e t), by show _ ≤ h'.objs.size; rw [hs.1]; exact G.size, G.os, G.gens,
    fun x => (G.tab x).but hs.extBut (Nat.ne_of_lt (Nat.lt_of_lt_of_le (Nat.lt_trans (by decide) x.lt) hL)) (Nat.ne_of_lt (Nat.lt_of_lt_of_le x.lt hL))⟩

section
variable {M : Model} {A : Around} {E : Value → Shared → Prop} {s : Shared}
theorem wholeTarget {p : Addr} {code : Array Nat} {x : Str} {t : Tok} {Q : ReTarget → Shared → Prop} (hp : Pat p code s.heap)
    (h : Q { pattern := .ref p, string := .str x t, code := code, text := x.cps, kind := 0, groups := 0, pos := 0, lim := x.cps.size } s) : wpAny M A (reWholeTarget (.ref p) (.str x t)) Q E s := by
  obtain ⟨o, v0, v1, c, oc, vs, n, e1, e2, e3, e4, e5, e6, e7, e8⟩ := hp
  unfold reWholeTarget
  refine wpAny_bind (wpAny_fieldsOf e1 e4 ?_)
  refine wpAny_bind (wpAny_pure ?_)
  show wpAny M A ((do return ((← seqItems? (.ref c)).getD #[]).map reRawOf) >>= _) Q E s
  refine wpAny_bind (wpAny_bind (wpAny_seqItems e5 e7 (wpAny_pure (wpAny_pure ?_))))
  subst e8
  exact h

theorem drive : ∀ (turns n : Nat) (m : Sre.M) (k : Nat), k ≤ n → n < 4 * turns → (m.runFor k).outcome.isSome = true → ∀ {Q : Sre.M → Shared → Prop}, Q (m.runFor k) s → wpAny M A (reDrive turns m) Q E s
  | 0, n, m, k, _, h, _, _, _ => by omega
  | turns + 1, n, m, k, hk, hn, ho, Q, hQ => by
    unfold reDrive
    show wpAny M A (if (m.runFor 4).outcome.isSome = true then pure (m.runFor 4) else (do rule "sre.turn"; reDrive turns (m.runFor 4))) Q E s
    by_cases h4 : (m.runFor 4).outcome.isSome = true
    · rw [if_pos h4]
      have : m.runFor 4 = m.runFor k := by
        rcases Nat.le_total k 4 with hk4 | hk4
        · rw [show (4 : Nat) = k + (4 - k) by omega, runFor_add, runFor_done ho]
        · rw [show k = 4 + (k - 4) by omega, runFor_add, runFor_done h4]
      rw [this]; exact wpAny_pure hQ
    · rw [if_neg h4]
      have hk4 : 4 < k := by
        rcases Nat.lt_or_ge 4 k with h | h
        · exact h
        · exfalso; apply h4
          rw [show (4 : Nat) = k + (4 - k) by omega, runFor_add, runFor_done ho]; exact ho
      have e : m.runFor k = (m.runFor 4).runFor (k - 4) := by rw [← runFor_add]; congr 1; omega
      refine wpAny_bind (wpAny_rule (drive turns (n - 4) (m.runFor 4) (k - 4) (by omega) (by omega) (by rw [← e]; exact ho) ?_))
      rw [← e]; exact hQ

theorem rules_pass {c : Nat → Bool} {f : Nat → String} {Q : PUnit → Shared → Prop} (h : Q .unit s) : ∀ l : List Nat, wpAny M A (forIn l PUnit.unit fun i _ => if c i = true then rule (f i) >>= fun _ => pure (ForInStep.yield PUnit.unit) else pure (ForInStep.yield PUnit.unit)) Q E s
  | [] => wpAny_pure h
  | i :: l => by
    rw [List.forIn_cons]
    refine wpAny_bind ?_
    by_cases hc : c i = true
    · rw [if_pos hc]
      exact wpAny_bind (wpAny_rule (wpAny_pure (rules_pass h l)))
    · rw [if_neg hc]
      exact wpAny_pure (rules_pass h l)

theorem runToEnd {m : Sre.M} {n : Nat} {r : Option (Nat × Nat)} {Q : Option Sre.M → Shared → Prop} (x : Fnd m n r) (hn : n < 2 ^ 64)
    (h : match r with | some (b, e) => ∀ m' : Sre.M, m'.start = b → m'.handed = e → Q (some m') s | none => Q none s) : wpAny M A (reRunToEnd m) Q E s := by
  obtain ⟨k, m', hk, rfl, hr⟩ := x
  have ho : (m.runFor k).outcome.isSome = true := by
    cases r with
    | none => rw [hr]; rfl
    | some p => rw [hr.1]; rfl
  unfold reRunToEnd
  refine wpAny_bind (drive (2 ^ 64) n m k hk (by omega) ho ?_)
  refine wpAny_bind (rules_pass ?_ _)
  cases r with
  | none => rw [hr]; exact wpAny_pure h
  | some p => rw [hr.1]; exact wpAny_pure (h _ hr.2.1 hr.2.2)
end

inductive Sb (code : Array Nat) (text repl : List Nat) : Nat → List Nat → Prop
  | fin {st n : Nat} : n < 2 ^ 64 → Fnd (Sre.forSearch code text.toArray 0 st text.toArray.size false) n none → st ≤ text.length → Sb code text repl st (text.drop st)
  | hit {st n b e : Nat} {out : List Nat} : n < 2 ^ 64 → Fnd (Sre.forSearch code text.toArray 0 st text.toArray.size false) n (some (b, e)) → st ≤ b → b < e → e ≤ text.length → Sb code text repl e out →
      Sb code text repl st ((text.drop st).take (b - st) ++ (repl ++ out))

theorem plain_sub_loop : plainId "re.Pattern.sub.loop" = true := by decide +kernel
theorem entry_sub_loop : entryFor table "re.Pattern.sub.loop" = some Builtin.«re.Pattern.sub.loop» := entryFor_of_tree (by kernel_rfl)

theorem push_ls {M : Model} {A : Around} {E : Value → Shared → Prop} {s : Shared} {L : Addr} {vs : List Value} {v : Value} {Q : Unit → Shared → Prop} (hl : Ls L vs s.heap) (hsz : vs.length ≤ sizeLine)
    (h : ∀ h', Ls L (vs ++ [v]) h' → Heap.SameBut L s.heap h' → Q () { s with heap := h' }) : wpAny M A (updateSeq L (·.push v)) Q E s := by
  obtain ⟨o, ho, hc, n, hd⟩ := id hl
  obtain ⟨n', hd'⟩ := Obj.data_mapSeq hd (·.push v)
  refine wpAny_updateSeq ho hd (h _ ?_ (Heap.SameBut.update ..)) (by simpa using hsz) (by simp; omega)
  refine ⟨_, Heap.get?_update_self _ ho (Obj.isFreed_of_seq hd'), (Obj.cls_mapSeq ..).trans hc, n', ?_⟩
  simpa using hd'

theorem loop_tail {prog : Program} {w : World} {A : Around} {E : Value → Shared → Prop} {Q : Fin → Shared → Prop} {s s₀ : Shared} {L : Addr} {acc : List (List Nat)} {text : List Nat} (G : Gw s₀ s) (hS : Strs L acc s.heap) (hfl : acc.flatten.length ≤ 1000000)
    (k : ∀ t' s', Gw s₀ s' → Q (.done (.ret (.str (tx acc.flatten) t'))) s') : wpAny (model prog w) A (do
        let joiner ← reSlice text.toArray 0 0 0
        let l ← seqItems? (.ref L)
        if (l.getD #[]).isEmpty = true then (do let text ← pure joiner; ret text) else (do let text ← call (.builtin "str.join") [joiner, .ref L]; ret text)) Q E s := by
  refine wpAny_bind (m := reSlice text.toArray 0 0 0) (wpAny_mkStr ?_ (by simp [Str.length]))
  have ej : (⟨text.toArray.extract 0 0⟩ : Str) = tx [] := by simp [tx]
  rw [ej]
  obtain ⟨ts, ⟨o, ho, hc, n, hd⟩, rfl⟩ := id hS
  refine wpAny_bind (wpAny_seqItems ho hd ?_)
  cases ts with
  | nil =>
    refine wpAny_bind (wpAny_pure (wpAny_pure ?_))
    exact k _ _ (G.tok _)
  | cons p ts =>
    have e1 : ((p :: ts).map fun p => Value.str (tx p.1) p.2) = strValues ((p :: ts).map fun p => (tx p.1, p.2)) := by simp [strValues]
    refine wpAny_bind (SC.join (l := (p :: ts).map fun p => (tx p.1, p.2)) (texts := ((p :: ts).map (·.1)).map tx) ⟨o, ho, hc, n, by rw [← e1]; exact hd⟩ (by simp) (join_ok hfl) fun t' tk => ?_)
    refine wpAny_pure ?_
    show Q (.done (.ret (.str (Builtin.Str.glued _ _) t'))) _
    rw [StrLaws.glued_eq_join, join_flat]
    exact k _ _ (G.tok _)

theorem slice_tx_eq (text : List Nat) (a b : Nat) : (⟨text.toArray.extract a b⟩ : Str) = tx ((text.drop a).take (b - a)) := by
  simp [tx, List.extract_eq_take_drop]

theorem sub_loop {p : Addr} {code : Array Nat} {text repl : List Nat} {t u : Tok} {st : Nat} {out : List Nat} (x : Sb code text repl st out) : ∀ (acc : List (List Nat)) (L : Addr) (cnt : Nat),
    Meets (Builtin.«re.Pattern.sub.loop» ⟨[.ref p, .str (tx text) t, .str (tx repl) u, rawInt 0, rawInt 0, rawInt cnt, rawInt st, rawInt st, .bool false, .ref L, .bool false], []⟩)
      (fun _ R s => ∃ s₀, Gw s₀ s ∧ s₀.heap.objs.size ≤ L ∧ Pat p code s₀.heap ∧ Strs L acc s.heap ∧ text.length ≤ 100000 ∧ acc.length + 2 * (text.length - st) ≤ 1000000 ∧ (acc.flatten ++ out).length ≤ 1000000 ∧
        ∀ t' s', Gw s₀ s' → R (.ok (.ret (.str (tx (acc.flatten ++ out)) t'))) s') := by
  induction x with
  | @fin st n hn hf hst =>
    intro acc L cnt prog w A R s ⟨s₀, G, hL, hp, hS, htl, hal, hfl, k⟩
    refine wpAny_bind (wholeTarget (hp.gw G) ?_)
    refine wpAny_bind (m := reLiteralCannotBeTurned (.str (tx repl) u)) (wpAny_bind (m := asStr? (.str (tx repl) u)) (wpAny_pure (wpAny_pure ?_)))
    refine wpAny_bind (m := reNextFound _ st false) (runToEnd hf hn ?_)
    show wpAny _ _ (if st < text.toArray.size then _ else _) _ _ _
    by_cases hlt : st < text.length
    · rw [if_pos (by simpa using hlt)]
      refine wpAny_bind (m := reSlice text.toArray 0 st text.toArray.size) (wpAny_mkStr ?_ (by simp [Str.length, sizeLine]; omega))
      rw [slice_tx_eq]
      obtain ⟨ts, hl, hts⟩ := id hS
      refine wpAny_bind (push_ls hl (by rw [← hts] at hal; simp [sizeLine] at hal ⊢; omega) fun h' hl' hs' => ?_)
      have ed : (text.drop st).take (text.toArray.size - st) = text.drop st := List.take_of_length_le (by simp)
      have hS' : Strs L (acc ++ [text.drop st]) h' := ⟨ts ++ [(text.drop st, s.toks)], by rw [List.map_append]; rw [ed] at hl'; exact hl', by rw [List.map_append, hts]; rfl⟩
      exact loop_tail (text := text) (G.but hL hs' (s.toks + 1)) hS' (by simpa using hfl) fun t' s' G' => by simpa using k t' s' G'
    · rw [if_neg (by simpa using hlt)]
      have ed : text.drop st = [] := List.drop_eq_nil_of_le (by omega)
      rw [ed, List.append_nil] at hfl k
      exact loop_tail (text := text) G hS hfl k
  | @hit st n b e out hn hf h1 h2 h3 _ ih =>
    intro acc L cnt prog w A R s ⟨s₀, G, hL, hp, hS, htl, hal, hfl, k⟩
    refine wpAny_bind (wholeTarget (hp.gw G) ?_)
    refine wpAny_bind (m := reLiteralCannotBeTurned (.str (tx repl) u)) (wpAny_bind (m := asStr? (.str (tx repl) u)) (wpAny_pure (wpAny_pure ?_)))
    refine wpAny_bind (m := reNextFound _ st false) (runToEnd hf hn fun m' hb he => ?_)
    subst hb he
    show wpAny _ _ (if st < m'.start then _ else _) _ _ _
    have rest : ∀ (s₁ : Shared) (acc₁ : List (List Nat)), Gw s₀ s₁ → Strs L acc₁ s₁.heap → acc₁.flatten = acc.flatten ++ (text.drop st).take (m'.start - st) → acc₁.length ≤ acc.length + 1 →
        wpAny (model prog w) A.in1 (do
          let item ← pure (Value.str (tx repl) u)
          if (item != Value.none) = true then (do
            let _ ← updateSeq L (·.push item)
            again (.builtin "re.Pattern.sub.loop" ⟨[.ref p, .str (tx text) t, .str (tx repl) u, rawInt 0, rawInt 0, rawInt ((cnt : Int) + 1), rawInt m'.handed, rawInt m'.handed, .bool (m'.handed == m'.start), .ref L, .bool false], []⟩))
          else again (.builtin "re.Pattern.sub.loop" ⟨[.ref p, .str (tx text) t, .str (tx repl) u, rawInt 0, rawInt 0, rawInt ((cnt : Int) + 1), rawInt m'.handed, rawInt m'.handed, .bool (m'.handed == m'.start), .ref L, .bool false], []⟩))
          (fun fin s' => match fin with | .done f => R (.ok f) s' | .again c' => c'.quiet = true ∧ codeAny (model prog w) A c' R s') (fun e s' => R (.error e) s') s₁ := by
      intro s₁ acc₁ G₁ hS₁ hfe hl1
      refine wpAny_bind (wpAny_pure ?_)
      rw [if_pos (by rfl)]
      obtain ⟨ts, hl, hts⟩ := id hS₁
      refine wpAny_bind (push_ls hl (by have := congrArg List.length hts; simp at this; simp [sizeLine]; omega) fun h' hl' hs' => ?_)
      have hS' : Strs L (acc₁ ++ [repl]) h' := ⟨ts ++ [(repl, u)], by rw [List.map_append]; exact hl', by rw [List.map_append, hts]; rfl⟩
      have hb : (m'.handed == m'.start) = false := by simp; omega
      rw [hb]
      refine wpAny_pure ⟨plainId_quiet plain_sub_loop _, codeAny_builtin entry_sub_loop ?_⟩
      rw [Around.under_plainId plain_sub_loop _]
      have hfl2 : (acc₁ ++ [repl]).flatten ++ out = acc.flatten ++ ((text.drop st).take (m'.start - st) ++ (repl ++ out)) := by
        rw [List.flatten_append, hfe]; simp
      refine ih (acc₁ ++ [repl]) L (cnt + 1) prog w A R _ ⟨s₀, G₁.but hL hs' _, hL, hp, hS', htl, ?_, by rw [hfl2]; exact hfl, fun t' s' G' => by rw [hfl2]; exact k t' s' G'⟩
      rw [List.length_append]; simp; omega
    by_cases hlt : st < m'.start
    · rw [if_pos hlt]
      refine wpAny_bind (m := reSlice text.toArray 0 st m'.start) (wpAny_mkStr ?_ (by simp [Str.length, sizeLine]; omega))
      rw [slice_tx_eq]
      obtain ⟨ts, hl, hts⟩ := id hS
      refine wpAny_bind (push_ls hl (by have := congrArg List.length hts; simp at this; simp [sizeLine]; omega) fun h' hl' hs' => ?_)
      have hS' : Strs L (acc ++ [(text.drop st).take (m'.start - st)]) h' := ⟨ts ++ [((text.drop st).take (m'.start - st), s.toks)], by rw [List.map_append]; exact hl', by rw [List.map_append, hts]; rfl⟩
      exact rest _ _ (G.but hL hs' (s.toks + 1)) hS' (by simp) (by simp)
    · rw [if_neg hlt]
      exact rest _ _ G hS (by rw [show m'.start - st = 0 by omega]; simp) (by omega)

theorem named_sub (a b : Value) : reNamed "re.Pattern.sub" "sub" ["repl", "string", "count"] 2 [a, b] [] = pure [some a, some b, none] := by rfl
theorem lookup_str_call : typeLookup (.type "str") "__call__" = pure none := by rw [typeLookup_type, builtinLookup_eq_fast]; kernel_rfl
theorem plain_sub : plainId "re.Pattern.sub" = true := by decide +kernel
theorem entry_sub : entryFor table "re.Pattern.sub" = some Builtin.«re.Pattern.sub» := entryFor_of_tree (by kernel_rfl)

theorem sub_meets {p : Addr} {code : Array Nat} {text repl : List Nat} {t u : Tok} {out : List Nat} (x : Sb code text repl 0 out) (hb : 92 ∉ repl) :
    Meets (Builtin.«re.Pattern.sub» ⟨[.ref p, .str (tx repl) u, .str (tx text) t], []⟩)
      (fun _ R s => Pat p code s.heap ∧ text.length ≤ 100000 ∧ out.length ≤ 1000000 ∧ ∀ t' s', Gw s s' → R (.ok (.ret (.str (tx out) t'))) s') := by
  intro prog w A R s ⟨hp, htl, hol, k⟩
  unfold Builtin.«re.Pattern.sub» reSubstitute
  refine wpAny_bind (m := reNamed "re.Pattern.sub" "sub" ["repl", "string", "count"] 2 [.str (tx repl) u, .str (tx text) t] []) (wpAny_of_eq (named_sub _ _) ?_)
  refine wpAny_bind (m := pure (0 : Int)) (wpAny_pure ?_)
  refine wpAny_bind (wpAny_specialOf (typeIs_str _ _ _) lookup_str_call ?_)
  refine wpAny_bind (m := asStr? (.str (tx repl) u)) (wpAny_pure ?_)
  refine wpAny_bind (m := pure (!(tx repl).cps.contains 92)) (wpAny_pure ?_)
  have hc : (!(tx repl).cps.contains 92) = true := by simp [tx, hb]
  rw [hc]
  refine wpAny_bind (m := pure (Value.str (tx repl) u, (0 : Int))) (wpAny_pure ?_)
  refine wpAny_bind (m := holding [Value.str (tx repl) u] (reWholeTarget (Value.ref p) (Value.str (tx text) t))) (wpAny_holding (wholeTarget hp ?_))
  refine wpAny_bind (m := newList []) (wpAny_newObj_type ?_)
  refine wpAny_pure ⟨plainId_quiet plain_sub_loop _, codeAny_builtin entry_sub_loop ?_⟩
  rw [Around.under_plainId plain_sub_loop _]
  refine sub_loop x [] s.heap.objs.size 0 prog w A R _ ⟨s, (Gw.refl s).push _ s.toks, Nat.le_refl _, hp, ⟨[], .new (Heap.get?_push_size _ rfl), rfl⟩, htl, by simp; omega, by simpa using hol, fun t' s' G => by simpa using k t' s' G⟩

/-! ## what the two replacements give -/
noncomputable def nl : Bool → List Nat → List Nat
  | _, [] => []
  | b, c :: r => if c = 10 then (if b = true then nl false r else 13 :: 10 :: nl false r) else if c = 13 then 13 :: 10 :: nl true r else c :: nl false r
noncomputable def dd : Bool → List Nat → List Nat
  | _, [] => []
  | b, c :: r => if b = true ∧ c = 46 then 46 :: 46 :: dd false r else c :: dd (c == 10) r

theorem getD_split (pre suf : List Nat) (i : Nat) : (pre ++ suf).toArray.getD (pre.length + i) 0 = suf.getD i 0 := by
  simp [Array.getD_eq_getD_getElem?, List.getD_eq_getElem?_getD, List.getElem?_append_right]
theorem nl_plain : ∀ (mid r : List Nat), (∀ c ∈ mid, c ≠ 10 ∧ c ≠ 13) → nl false (mid ++ r) = mid ++ nl false r
  | [], _, _ => rfl
  | c :: m, r, h => by
    have hc := h c (List.mem_cons_self ..)
    have ih := nl_plain m r fun d hd => h d (List.mem_cons_of_mem _ hd)
    rw [List.cons_append, nl, if_neg hc.1, if_neg hc.2, ih, List.cons_append]
theorem nl_true {q : List Nat} (h : q.getD 0 0 ≠ 10) : nl true q = nl false q := by
  cases q with
  | nil => rfl
  | cons c r => simp at h; rw [nl, nl, if_neg h, if_neg h]
theorem span_nl : ∀ l : List Nat, ∃ mid r, l = mid ++ r ∧ (∀ c ∈ mid, c ≠ 10 ∧ c ≠ 13) ∧ (r = [] ∨ ∃ c r', r = c :: r' ∧ (c = 10 ∨ c = 13))
  | [] => ⟨[], [], rfl, (fun _ h => nomatch h), .inl rfl⟩
  | c :: l => by
    by_cases hc : c = 10 ∨ c = 13
    · exact ⟨[], c :: l, rfl, (fun _ h => nomatch h), .inr ⟨c, l, rfl, hc⟩⟩
    · obtain ⟨mid, r, e, h1, h2⟩ := span_nl l
      exact ⟨c :: mid, r, by rw [e]; rfl, fun d hd => by rcases List.mem_cons.mp hd with rfl | hd; exact ⟨fun e => hc (.inl e), fun e => hc (.inr e)⟩; exact h1 d hd, h2⟩

theorem sb_nl {text : List Nat} (hlen : text.length < 2 ^ 32) : ∀ (n : Nat) (pre suf : List Nat), suf.length ≤ n → text = pre ++ suf → Sb code2 text [13, 10] pre.length (nl false suf) := by
  intro n
  induction n with
  | zero =>
    intro pre suf hn e
    have hs : suf = [] := List.length_eq_zero_iff.mp (by omega)
    subst hs
    have := @Sb.fin code2 text [13, 10] pre.length 15 (by decide) (by
      have := search2 (text := text.toArray) (st := pre.length) (n := 0) (by simp [e]) (fun i hi => absurd hi (by omega)) (.inl (by simp [e]))
      rwa [if_pos (by simp [e])] at this) (by simp [e])
    rw [e] at this ⊢
    simpa [nl] using this
  | succ n ih =>
    intro pre suf hn e
    obtain ⟨mid, r, es, hm, hr⟩ := span_nl suf
    have hg : ∀ i, text.toArray.getD (pre.length + i) 0 = suf.getD i 0 := fun i => by rw [e]; exact getD_split pre suf i
    have hmid : ∀ i, i < mid.length → text.toArray.getD (pre.length + i) 0 ≠ 10 ∧ text.toArray.getD (pre.length + i) 0 ≠ 13 := fun i hi => by
      rw [hg, es, List.getD_eq_getElem?_getD, List.getElem?_append_left hi, List.getElem?_eq_getElem hi]
      exact hm _ (List.getElem_mem hi)
    have hsz : text.toArray.size = pre.length + mid.length + r.length := by simp [e, es]; omega
    rcases hr with rfl | ⟨c, r', rfl, hc⟩
    · have hS := search2 (text := text.toArray) (st := pre.length) (n := mid.length) (by rw [hsz]; simp) hmid (.inl (by rw [hsz]; simp))
      rw [if_pos (by rw [hsz]; simp)] at hS
      have := @Sb.fin code2 text [13, 10] pre.length 15 (by decide) hS (by simp [e])
      rw [e, es] at this ⊢
      rw [nl_plain mid [] hm]
      simpa [nl] using this
    · have hcg : text.toArray.getD (pre.length + mid.length) 0 = c := by rw [hg, es]; simp [List.getD_eq_getElem?_getD]
      have hcg2 : text.toArray.getD (pre.length + mid.length + 1) 0 = r'.getD 0 0 := by rw [Nat.add_assoc, hg, es]; simp [List.getD_eq_getElem?_getD, List.getElem?_append_right]
      have hS := search2 (text := text.toArray) (st := pre.length) (n := mid.length) (by rw [hsz]; simp) hmid (.inr (by rw [hcg]; exact hc))
      rw [if_neg (by rw [hsz]; simp), hcg, hcg2] at hS
      rw [es, nl_plain mid _ hm]
      have key : ∀ (q k : List Nat), c :: r' = k ++ q → k ≠ [] → nl false (c :: r') = 13 :: 10 :: nl false q → Fnd (Sre.forSearch code2 text.toArray 0 pre.length text.toArray.size false) 15 (some (pre.length + mid.length, pre.length + mid.length + k.length)) → Sb code2 text [13, 10] pre.length (mid ++ nl false (c :: r')) := fun q k eq hk enl hF => by
        have hk1 : 0 < k.length := List.length_pos_iff.mpr hk
        have et : text = (pre ++ mid ++ k) ++ q := by rw [e, es, eq]; simp
        have hI := ih (pre ++ mid ++ k) q (by have := congrArg List.length eq; simp at this; rw [es] at hn; simp at hn; omega) et
        have := @Sb.hit code2 text [13, 10] pre.length 15 _ _ _ (by decide) hF (by omega) (by omega) (by rw [et]; simp; omega) (by
          have : pre.length + mid.length + k.length = (pre ++ mid ++ k).length := by simp; omega
          rw [this]; exact hI)
        rw [enl]
        have ed : (text.drop pre.length).take (pre.length + mid.length - pre.length) = mid := by
          rw [e, es]; simp
        rw [ed] at this
        exact this
      by_cases h2 : c = 13 ∧ r'.getD 0 0 = 10
      · obtain ⟨rfl, h2⟩ := h2
        obtain ⟨q, rfl⟩ : ∃ q, r' = 10 :: q := by
          cases r' with
          | nil => simp at h2
          | cons d q => simp at h2; subst h2; exact ⟨q, rfl⟩
        rw [if_pos ⟨rfl, by rw [hsz]; simp, h2⟩] at hS
        exact key q [13, 10] rfl (by simp) (by simp [nl]) hS
      · rw [if_neg fun h => h2 ⟨h.1, h.2.2⟩] at hS
        refine key r' [c] rfl (by simp) ?_ hS
        rcases hc with rfl | rfl
        · rw [nl]; simp
        · rw [nl, if_neg (by omega), if_pos rfl, nl_true fun h => h2 ⟨rfl, h⟩]

noncomputable def nh : Bool → List Nat → Prop
  | _, [] => True
  | b, c :: m => ¬ (b = true ∧ c = 46) ∧ nh (c == 10) m
noncomputable def stB : Bool → List Nat → Bool
  | b, [] => b
  | _, c :: m => stB (c == 10) m
theorem dd_plain : ∀ (mid r : List Nat) (b : Bool), nh b mid → dd b (mid ++ r) = mid ++ dd (stB b mid) r
  | [], _, _, _ => rfl
  | c :: m, r, b, h => by
    rw [List.cons_append, dd, if_neg h.1, dd_plain m r _ h.2]; rfl
theorem span_dd : ∀ (l : List Nat) (b : Bool), ∃ mid r, l = mid ++ r ∧ nh b mid ∧ (r = [] ∨ ∃ r', r = 46 :: r' ∧ stB b mid = true)
  | [], b => ⟨[], [], rfl, trivial, .inl rfl⟩
  | c :: l, b => by
    by_cases hc : b = true ∧ c = 46
    · exact ⟨[], c :: l, rfl, trivial, .inr ⟨l, by rw [hc.2], hc.1⟩⟩
    · obtain ⟨mid, r, e, h1, h2⟩ := span_dd l (c == 10)
      exact ⟨c :: mid, r, by rw [e]; rfl, ⟨hc, h1⟩, h2⟩
noncomputable def at_ (b : Bool) (l : List Nat) (i : Nat) : Bool := if i = 0 then b else l.getD (i - 1) 0 == 10
theorem nh_no : ∀ (mid r : List Nat) (b : Bool), nh b mid → ∀ i, i < mid.length → ¬ (at_ b (mid ++ r) i = true ∧ (mid ++ r).getD i 0 = 46)
  | c :: m, r, b, h, 0, _ => by simpa [at_] using h.1
  | c :: m, r, b, h, i + 1, hi => by
    have := nh_no m r (c == 10) h.2 i (by simpa using hi)
    cases i with
    | zero => simpa [at_] using this
    | succ i => simpa [at_] using this
theorem stB_at : ∀ (mid r : List Nat) (b : Bool), stB b mid = at_ b (mid ++ r) mid.length
  | [], _, _ => rfl
  | [c], _, _ => by simp [stB, at_]
  | c :: d :: m, r, b => by
    have := stB_at (d :: m) r (c == 10)
    rw [stB, this]
    simp [at_]
theorem stB_nil (b : Bool) (m : List Nat) (c : Nat) : stB b (m ++ [c]) = (c == 10) := by
  induction m generalizing b with
  | nil => rfl
  | cons d m ih => exact ih _
theorem stB_bol (pre suf : List Nat) : bol (pre ++ suf).toArray pre.length = stB true pre := by
  by_cases hp : pre = []
  · subst hp; rfl
  · obtain ⟨q, c, rfl⟩ : ∃ q c, pre = q ++ [c] := ⟨pre.dropLast, pre.getLast hp, (List.dropLast_concat_getLast hp).symm⟩
    rw [stB_nil]
    unfold bol
    have e : (q ++ [c]).length - 1 = q.length + 0 := by simp
    rw [e, List.append_assoc, getD_split]
    simp
theorem bol_at {text pre suf : List Nat} (e : text = pre ++ suf) (i : Nat) (hi : i ≤ suf.length) : bol text.toArray (pre.length + i) = at_ (stB true pre) suf i := by
  unfold at_
  by_cases h : i = 0
  · subst h; rw [if_pos rfl, e]; exact stB_bol pre suf
  · rw [if_neg h]
    unfold bol
    rw [show pre.length + i - 1 = pre.length + (i - 1) by omega, e, getD_split]
    simp; omega
theorem stB_append (b : Bool) (l m : List Nat) : stB b (l ++ m) = stB (stB b l) m := by
  induction l generalizing b with
  | nil => rfl
  | cons c l ih => exact ih _

theorem sb_dd {text : List Nat} (hlen : text.length < 2 ^ 32) : ∀ (n : Nat) (pre suf : List Nat), suf.length ≤ n → text = pre ++ suf → Sb code1 text [46, 46] pre.length (dd (stB true pre) suf) := by
  intro n
  induction n with
  | zero =>
    intro pre suf hn e
    have hs : suf = [] := List.length_eq_zero_iff.mp (by omega)
    subst hs
    have := @Sb.fin code1 text [46, 46] pre.length 5 (by decide) (by
      have := search1 (text := text.toArray) (st := pre.length) (n := 0) (by simp [e]) (fun i hi => absurd hi (by omega)) (.inl (by simp [e]))
      rwa [if_pos (by simp [e])] at this) (by simp [e])
    rw [e] at this ⊢
    simpa [dd] using this
  | succ n ih =>
    intro pre suf hn e
    obtain ⟨mid, r, es, hm, hr⟩ := span_dd suf (stB true pre)
    have hg : ∀ i, text.toArray.getD (pre.length + i) 0 = suf.getD i 0 := fun i => by rw [e]; exact getD_split pre suf i
    have hsz : text.toArray.size = pre.length + mid.length + r.length := by simp [e, es]; omega
    have hno : ∀ i, i < mid.length → ¬ (bol text.toArray (pre.length + i) = true ∧ text.toArray.getD (pre.length + i) 0 = 46) := fun i hi => by
      rw [bol_at e i (by rw [es]; simp; omega), hg, es]
      exact nh_no mid r _ hm i hi
    rcases hr with rfl | ⟨r', rfl, hst⟩
    · have hS := search1 (text := text.toArray) (st := pre.length) (n := mid.length) (by rw [hsz]; simp) hno (.inl (by rw [hsz]; simp))
      rw [if_pos (by rw [hsz]; simp)] at hS
      have hb : 3 * mid.length + 5 < 2 ^ 64 := by rw [e, es] at hlen; simp at hlen; omega
      have := @Sb.fin code1 text [46, 46] pre.length _ hb hS (by simp [e])
      rw [e, es] at this ⊢
      rw [dd_plain mid [] _ hm]
      simpa [dd] using this
    · have hb : 3 * mid.length + 5 < 2 ^ 64 := by rw [e, es] at hlen; simp at hlen; omega
      have hS := search1 (text := text.toArray) (st := pre.length) (n := mid.length) (by rw [hsz]; simp) hno (.inr (by
        rw [bol_at e mid.length (by rw [es]; simp), hg, es, ← stB_at]
        exact ⟨hst, by simp [List.getD_eq_getElem?_getD]⟩))
      rw [if_neg (by rw [hsz]; simp)] at hS
      have et : text = (pre ++ mid ++ [46]) ++ r' := by rw [e, es]; simp
      have hI := ih (pre ++ mid ++ [46]) r' (by rw [es] at hn; simp at hn; omega) et
      have hst2 : stB true (pre ++ mid ++ [46]) = false := by rw [stB_append]; rfl
      rw [hst2] at hI
      have := @Sb.hit code1 text [46, 46] pre.length _ _ _ _ hb hS (by omega) (by omega) (by rw [et]; simp; omega) (by
        have : pre.length + mid.length + 1 = (pre ++ mid ++ [46]).length := by simp; omega
        rw [this]; exact hI)
      have ed : (text.drop pre.length).take (pre.length + mid.length - pre.length) = mid := by rw [e, es]; simp
      rw [ed] at this
      rw [es, dd_plain mid _ _ hm, hst, dd, if_pos ⟨rfl, rfl⟩]
      exact this

theorem plainAttrs_pat : PlainAttrs "re.Pattern" :=
  ⟨⟨"object.__getattribute__", by rw [typeLookup_type, builtinLookup_eq_fast]; kernel_rfl, by decide +kernel⟩, by rw [typeLookup_type, builtinLookup_eq_fast]; kernel_rfl⟩
theorem slot_pat_sub : Slot "re.Pattern" "sub" "re.Pattern.sub" :=
  .of (owner := "re.Pattern") (n := "sub") (by rw [typeLookup_type, builtinLookup_eq_fast]; kernel_rfl) (by decide +kernel) (by decide +kernel) (by decide +kernel)
    (by first | exact .inl (by decide +kernel) | exact .inr (by decide +kernel)) (by rw [isSubtype_type]; kernel_rfl)
theorem type_pat_sub : typeOf (.builtin "re.Pattern.sub") = pure (.type "method_descriptor") := by show builtinType _ = _; rw [builtinType_eq_fast]; kernel_rfl
theorem owner_pat : Manifest.owners.lookup (String.ofList ['n', 'r', 'e', 't', 't', 'a', 'P', '.', 'e', 'r'].reverse) = some Manifest.sig_re_Pattern := by kernel_rfl
theorem args_pat_sub (a b c : Value) : argsOk "re.Pattern.sub" ⟨[a, b, c], []⟩ := by
  unfold argsOk; rw [signature?_of (id := "re.Pattern.sub") (n := ['b', 'u', 's']) (o := ['n', 'r', 'e', 't', 't', 'a', 'P', '.', 'e', 'r']) (by kernel_rfl) owner_pat]; kernel_rfl
theorem Pat.typeIs {p : Addr} {code : Array Nat} {s : Shared} (x : Pat p code s.heap) : s.TypeIs (.ref p) "re.Pattern" := let ⟨o, _, _, _, _, _, _, e, c, _⟩ := x; ⟨o, e, c⟩
theorem gm_sub {M : Model} {A : Around} {E : Value → Shared → Prop} {s : Shared} {p : Addr} {code : Array Nat} {pl : Sem Bool} {Q : Value × List Value → Shared → Prop} (hp : Pat p code s.heap) (h : Q (.builtin "re.Pattern.sub", [.ref p]) s) : wpAny M A (getMethod (.ref p) "sub" pl) Q E s :=
  getMethod_builtin hp.typeIs plainAttrs_pat slot_pat_sub type_pat_sub (fun a e => by cases e; let ⟨o, _, _, _, _, _, _, e, _, d, _⟩ := hp; exact ⟨o, e, d⟩) h
theorem call_sub {prog : Program} {w : World} {A : Around} {E : Value → Shared → Prop} {s : Shared} {p : Addr} {code : Array Nat} {text repl : List Nat} {t u : Tok} {out : List Nat} {Q : Value → Shared → Prop} (hp : Pat p code s.heap) (x : Sb code text repl 0 out) (hb : 92 ∉ repl) (hl : text.length ≤ 100000) (ho : out.length ≤ 1000000)
    (h : ∀ t' s', Gw s s' → Q (.str (tx out) t') s') : wpAny (model prog w) A (call (.builtin "re.Pattern.sub") [.ref p, .str (tx repl) u, .str (tx text) t]) Q E s :=
  call_meets slot_pat_sub hp.typeIs entry_sub (args_pat_sub _ _ _) (sub_meets x hb) ⟨hp, hl, ho, h⟩

theorem nl_len : ∀ (b : Bool) (l : List Nat), (nl b l).length ≤ 2 * l.length
  | _, [] => by simp [nl]
  | b, c :: r => by
    have h1 := nl_len false r
    have h2 := nl_len true r
    rw [nl]
    split
    · split
      · simp; omega
      · simp; omega
    · split <;> simp <;> omega
theorem dd_len : ∀ (b : Bool) (l : List Nat), (dd b l).length ≤ 2 * l.length
  | _, [] => by simp [dd]
  | b, c :: r => by
    have h1 := dd_len false r
    have h2 := dd_len (c == 10) r
    rw [dd]
    split <;> simp <;> omega
end Mine
namespace Mine
set_option maxRecDepth 100000
open PySem PySem.W PyProof.Rows PySem.StrLaws PySem.Builtin PySem.Builtin.Str

noncomputable def joinC : List (List Nat) → List Nat
  | [] => []
  | [r] => r
  | r :: R => r ++ 13 :: 10 :: joinC R
theorem subAt_crlf (xs : List Nat) (k : Nat) : subAt (tx xs) (tx [13, 10]) k = true ↔ xs[k]? = some 13 ∧ xs[k + 1]? = some 10 := by
  rw [subAt_eq, tx_cps, tx_cps, tx_len]
  simp only [List.length_cons, List.length_nil, beq_iff_eq]
  constructor
  · intro h
    have h0 : ((xs.drop k).take (0 + 1 + 1))[0]? = some 13 := by rw [h]; rfl
    have h1 : ((xs.drop k).take (0 + 1 + 1))[1]? = some 10 := by rw [h]; rfl
    rw [List.getElem?_take_of_lt (by omega), List.getElem?_drop] at h0 h1
    exact ⟨h0, h1⟩
  · rintro ⟨h0, h1⟩
    obtain ⟨l0, e0⟩ := List.getElem?_eq_some_iff.mp h0
    obtain ⟨l1, e1⟩ := List.getElem?_eq_some_iff.mp h1
    rw [List.drop_eq_getElem_cons l0, e0, List.drop_eq_getElem_cons l1, e1]
    rfl
theorem parts_rows {xs : List Nat} : ∀ (rows : List (List Nat)) (pre : List Nat) (cuts : List Nat) (f : Nat), rows ≠ [] → (∀ r ∈ rows, 13 ∉ r) → xs = pre ++ joinC rows →
    ChainG (tx xs) (tx [13, 10]) (tx xs).length pre.length cuts f → (∀ k, f ≤ k → ¬ At (tx xs) (tx [13, 10]) (tx xs).length k) → partsFrom (tx xs) 2 pre.length cuts = rows.map tx
  | [], _, _, _, h, _, _, _, _ => absurd rfl h
  | [r], pre, cuts, f, _, h13, e, hG, hf => by
    have hno : ∀ k, pre.length ≤ k → ¬ At (tx xs) (tx [13, 10]) (tx xs).length k := fun k hk hA => by
      have := ((subAt_crlf xs k).mp hA.2).1
      rw [e, List.getElem?_append_right hk] at this
      exact h13 r (List.mem_cons_self ..) (List.mem_of_getElem? this)
    cases cuts with
    | cons c cs => exact absurd hG.2.1 (hno c hG.1)
    | nil =>
      show [strSub (tx xs) pre.length (tx xs).length] = [tx r]
      congr 1
      apply Str.ext'
      apply Array.toList_inj.mp
      rw [strSub_toList, tx_cps, tx_cps, tx_len, e]
      simp [joinC]
  | r :: q :: R, pre, cuts, f, _, h13, e, hG, hf => by
    have e' : xs = pre ++ (r ++ 13 :: 10 :: joinC (q :: R)) := e
    have hat : At (tx xs) (tx [13, 10]) (tx xs).length (pre.length + r.length) := by
      refine ⟨by rw [tx_len, tx_len, e']; simp; omega, (subAt_crlf xs _).mpr ⟨?_, ?_⟩⟩
      · rw [e', List.getElem?_append_right (by omega), List.getElem?_append_right (by omega)]; simp
      · rw [e', List.getElem?_append_right (by omega), List.getElem?_append_right (by omega)]
        rw [show pre.length + r.length + 1 - pre.length - r.length = 1 by omega]; rfl
    cases cuts with
    | nil =>
      have hfe : f = pre.length := hG
      exact absurd hat (hf _ (by omega))
    | cons c cs =>
      obtain ⟨h1, h2, h3, h4⟩ := hG
      have hc : c = pre.length + r.length := by
        rcases Nat.lt_trichotomy c (pre.length + r.length) with h | h | h
        · exfalso
          have := ((subAt_crlf xs c).mp h2.2).1
          rw [e', List.getElem?_append_right h1, List.getElem?_append_left (by omega)] at this
          exact h13 r (List.mem_cons_self ..) (List.mem_of_getElem? this)
        · exact h
        · exact absurd hat (h3 _ (by omega) h)
      subst hc
      have ih := parts_rows (q :: R) (pre ++ r ++ [13, 10]) cs f (by simp) (fun s hs => h13 s (List.mem_cons_of_mem _ hs)) (by rw [e']; simp) (by
        have : (pre ++ r ++ [13, 10]).length = pre.length + r.length + (tx [13, 10]).length := by rw [tx_len]; simp; omega
        rw [this]; exact h4) hf
      show strSub (tx xs) pre.length (pre.length + r.length) :: partsFrom (tx xs) 2 (pre.length + r.length + 2) cs = tx r :: (q :: R).map tx
      rw [show pre.length + r.length + 2 = (pre ++ r ++ [13, 10]).length by simp; omega, ih]
      congr 1
      apply Str.ext'
      apply Array.toList_inj.mp
      rw [strSub_toList, tx_cps, tx_cps, e']
      simp
theorem split_parts {rows : List (List Nat)} (h : rows ≠ []) (h13 : ∀ r ∈ rows, 13 ∉ r) :
    partsBetween (tx (joinC rows)) (occurrences (tx (joinC rows)) (tx [13, 10]) 0 (tx (joinC rows)).length ((tx (joinC rows)).length + 1)) (tx [13, 10]).length = rows.map tx := by
  obtain ⟨f, hG, hn⟩ := occ_tight (tx (joinC rows)) (tx [13, 10]) (by rw [tx_len]; decide)
  rw [partsBetween_eq]
  exact parts_rows rows [] _ f h h13 rfl hG hn
theorem split_rows {rows : List (List Nat)} (h : rows ≠ []) (h13 : ∀ r ∈ rows, 13 ∉ r) : Txt.split (tx (joinC rows)) (tx [13, 10]) = rows.map tx := by
  have key := split_parts h h13
  unfold Txt.split
  have hk : Builtin.Str.strKind (tx [13, 10]) = 1 := by decide +kernel
  have hk2 : 1 ≤ Builtin.Str.strKind (tx (joinC rows)) := by
    unfold Builtin.Str.strKind
    split
    · exact Nat.le_refl _
    · split <;> decide
  split
  · rename_i hc
    rw [hk, Bool.or_eq_true, decide_eq_true_eq, decide_eq_true_eq, tx_len, tx_len] at hc
    have hlt : (joinC rows).length < 2 := by rcases hc with hc | hc; exact hc; omega
    cases rows with
    | nil => exact absurd rfl h
    | cons r R =>
      cases R with
      | nil => rfl
      | cons q R => simp [joinC] at hlt; omega
  · split
    · rename_i he
      rw [List.isEmpty_iff.mp he, partsBetween_eq] at key
      rw [← key]
      show [_] = [strSub _ 0 _]
      rw [sub_whole]
    · exact key
theorem strs_of_values {D : Addr} {l : List (Str × Tok)} {rows : List (List Nat)} {h : Heap} (e : l.map (·.1) = rows.map tx) (x : h.IsList D (strValues l).toArray) : Strs D rows h := by
  refine ⟨l.map fun p => (p.1.cps.toList, p.2), ?_, ?_⟩
  · have : ((l.map fun p => (p.1.cps.toList, p.2)).map fun p : List Nat × Tok => Value.str (tx p.1) p.2) = strValues l := by
      rw [List.map_map]; unfold strValues
      apply List.map_congr_left
      intro p _
      show Value.str (tx p.1.cps.toList) p.2 = Value.str p.1 p.2
      simp [tx]
    rw [this]; exact x
  · have := congrArg (List.map fun y : Str => y.cps.toList) e
    rw [List.map_map, List.map_map] at this
    rw [List.map_map]
    have e2 : rows.map ((fun y : Str => y.cps.toList) ∘ tx) = rows := by
      conv => rhs; rw [← List.map_id rows]
      apply List.map_congr_left
      intro y _; simp [tx]
    rw [e2] at this
    exact this
theorem split_tx {w : World} {A : Around} {E : Value → Shared → Prop} {s : Shared} {g : Shared} {o : Bool} {sc : Scope} {env : Env} {l : List (Str × Value)} {P : Heap → Prop} {Q : Value → Shared → Prop} {rows : List (List Nat)} {t u : Tok}
    (F : Fm w g o sc env s l P) (h : rows ≠ []) (h13 : ∀ r ∈ rows, 13 ∉ r) (h1 : rows.length ≤ 1000) (h2 : (joinC rows).length ≤ 1000000) (k : ∀ D s', Fm w g o sc env s' l (fun h => Strs D rows h ∧ P h) → Q (.ref D) s') :
    wpAny (MM w) A (call (.builtin "str.split") [.str (tx (joinC rows)) t, .str (tx [13, 10]) u]) Q E s := by
  refine SCG.split1 (Fm := fun s' => Fm w g o sc env s' l P) (fun s' ob tk F' => F'.push ob tk) F (by rw [tx_len]; rfl) (fun D ls s' e F' hl => ?_) (by rw [tx_len]; simp [sizeLine]; omega) (by rw [split_parts h h13]; simp [sizeLine]; omega)
  rw [split_rows h h13] at e
  have hS := strs_of_values e hl
  exact k D s' (F'.pin (stb_strs _ (hS.off F')) hS)
end Mine
namespace Mine
set_option maxRecDepth 100000
open PySem PySem.W PyProof.Rows PySem.StrLaws PySem.Builtin PySem.Builtin.Str

/-! ## one letter found, one letter split at -/
theorem tx_one (c : Nat) : tx [c] = ⟨#[c]⟩ := rfl
theorem find3_tx {pre mid post : List Nat} {c : Nat} (h : c ∉ mid) : Txt.find3 (tx (pre ++ (mid ++ c :: post))) (tx [c]) pre.length = ((pre.length + mid.length : Nat) : Int) := by
  have fi : fromIndex (tx (pre ++ (mid ++ c :: post))).length pre.length = pre.length := by
    unfold fromIndex; rw [tx_len]; simp; omega
  have hl : (tx (pre ++ (mid ++ c :: post))).length = pre.length + mid.length + 1 + post.length := by rw [tx_len]; simp; omega
  have key : ∀ v, (tx (pre ++ (mid ++ c :: post))).cps.getD v 0 = (pre ++ (mid ++ c :: post)).getD v 0 := fun v => by
    simp [tx]
  have hat : (pre ++ (mid ++ c :: post)).getD (pre.length + mid.length) 0 = c := by
    rw [List.getD_eq_getElem?_getD, List.getElem?_append_right (by omega), List.getElem?_append_right (by omega)]; simp
  rw [tx_one]
  rcases find3_spec (tx (pre ++ (mid ++ c :: post))) c pre.length with ⟨_, hn⟩ | ⟨k, hk, h1, h2, h3, h4⟩
  · rw [fi] at hn
    exact absurd ((key _).trans hat) (hn (pre.length + mid.length) (by omega) (by omega))
  · rw [fi] at h1 h4
    rw [hk]
    rw [key] at h3
    rcases Nat.lt_trichotomy k (pre.length + mid.length) with q | q | q
    · exfalso
      rw [List.getD_eq_getElem?_getD, List.getElem?_append_right h1, List.getElem?_append_left (by omega)] at h3
      rw [List.getElem?_eq_getElem (by omega)] at h3
      exact h (by rw [← h3]; exact List.getElem_mem _)
    · rw [q]
    · exact absurd ((key _).trans hat) (h4 _ (by omega) q)
theorem find_tx {mid post : List Nat} {c : Nat} (h : c ∉ mid) : Txt.find (tx (mid ++ c :: post)) (tx [c]) = ((mid.length : Nat) : Int) := by
  have := find3_tx (pre := []) (post := post) h
  simp only [List.nil_append, List.length_nil, Nat.zero_add] at this
  rw [← this]
  unfold Txt.find Txt.find3
  have fi : fromIndex (tx (mid ++ c :: post)).length ((0 : Nat) : Int) = 0 := by unfold fromIndex; simp
  rw [fi]
  cases occurrences (tx (mid ++ c :: post)) (tx [c]) 0 (tx (mid ++ c :: post)).length 1 <;> rfl

noncomputable def joinM (m : Nat) : List (List Nat) → List Nat
  | [] => []
  | [r] => r
  | r :: R => r ++ m :: joinM m R
theorem subAt_m (m : Nat) (xs : List Nat) (k : Nat) : At (tx xs) (tx [m]) (tx xs).length k ↔ xs[k]? = some m := by
  have := subAt_one (tx xs) m k
  rw [tx_cps] at this
  exact this
theorem partsM {m : Nat} {xs : List Nat} : ∀ (rows : List (List Nat)) (pre : List Nat) (cuts : List Nat) (f : Nat), rows ≠ [] → (∀ r ∈ rows, m ∉ r) → xs = pre ++ joinM m rows →
    ChainG (tx xs) (tx [m]) (tx xs).length pre.length cuts f → (∀ k, f ≤ k → ¬ At (tx xs) (tx [m]) (tx xs).length k) → partsFrom (tx xs) 1 pre.length cuts = rows.map tx
  | [], _, _, _, h, _, _, _, _ => absurd rfl h
  | [r], pre, cuts, f, _, h13, e, hG, hf => by
    have hno : ∀ k, pre.length ≤ k → ¬ At (tx xs) (tx [m]) (tx xs).length k := fun k hk hA => by
      have := (subAt_m m xs k).mp hA
      rw [e, List.getElem?_append_right hk] at this
      exact h13 r (List.mem_cons_self ..) (List.mem_of_getElem? this)
    cases cuts with
    | cons c cs => exact absurd hG.2.1 (hno c hG.1)
    | nil =>
      show [strSub (tx xs) pre.length (tx xs).length] = [tx r]
      congr 1
      apply Str.ext'
      apply Array.toList_inj.mp
      rw [strSub_toList, tx_cps, tx_cps, tx_len, e]
      simp [joinM]
  | r :: q :: R, pre, cuts, f, _, h13, e, hG, hf => by
    have e' : xs = pre ++ (r ++ m :: joinM m (q :: R)) := e
    have hat : At (tx xs) (tx [m]) (tx xs).length (pre.length + r.length) := by
      rw [subAt_m, e', List.getElem?_append_right (by omega), List.getElem?_append_right (by omega)]; simp
    cases cuts with
    | nil =>
      have hfe : f = pre.length := hG
      exact absurd hat (hf _ (by omega))
    | cons c cs =>
      obtain ⟨h1, h2, h3, h4⟩ := hG
      have hc : c = pre.length + r.length := by
        rcases Nat.lt_trichotomy c (pre.length + r.length) with h | h | h
        · exfalso
          have := (subAt_m m xs c).mp h2
          rw [e', List.getElem?_append_right h1, List.getElem?_append_left (by omega)] at this
          exact h13 r (List.mem_cons_self ..) (List.mem_of_getElem? this)
        · exact h
        · exact absurd hat (h3 _ (by omega) h)
      subst hc
      have ih := partsM (q :: R) (pre ++ r ++ [m]) cs f (by simp) (fun s hs => h13 s (List.mem_cons_of_mem _ hs)) (by rw [e']; simp) (by
        have : (pre ++ r ++ [m]).length = pre.length + r.length + (tx [m]).length := by rw [tx_len]; simp; omega
        rw [this]; exact h4) hf
      show strSub (tx xs) pre.length (pre.length + r.length) :: partsFrom (tx xs) 1 (pre.length + r.length + 1) cs = tx r :: (q :: R).map tx
      rw [show pre.length + r.length + 1 = (pre ++ r ++ [m]).length by simp; omega, ih]
      congr 1
      apply Str.ext'
      apply Array.toList_inj.mp
      rw [strSub_toList, tx_cps, tx_cps, e']
      simp
theorem splitM_parts {m : Nat} {rows : List (List Nat)} (h : rows ≠ []) (h13 : ∀ r ∈ rows, m ∉ r) :
    partsBetween (tx (joinM m rows)) (occurrences (tx (joinM m rows)) (tx [m]) 0 (tx (joinM m rows)).length ((tx (joinM m rows)).length + 1)) (tx [m]).length = rows.map tx := by
  obtain ⟨f, hG, hn⟩ := occ_tight (tx (joinM m rows)) (tx [m]) (by rw [tx_len]; exact Nat.le_refl 1)
  rw [partsBetween_eq]
  exact partsM rows [] _ f h h13 rfl hG hn
theorem splitM_rows {m : Nat} {rows : List (List Nat)} (h : rows ≠ []) (h13 : ∀ r ∈ rows, m ∉ r) (hk : Builtin.Str.strKind (tx [m]) = 1) : Txt.split (tx (joinM m rows)) (tx [m]) = rows.map tx := by
  have key := splitM_parts h h13
  unfold Txt.split
  have hk2 : 1 ≤ Builtin.Str.strKind (tx (joinM m rows)) := by
    unfold Builtin.Str.strKind
    split
    · exact Nat.le_refl _
    · split <;> decide
  split
  · rename_i hc
    rw [hk, Bool.or_eq_true, decide_eq_true_eq, decide_eq_true_eq, tx_len, tx_len] at hc
    have hlt : (joinM m rows).length < 1 := by rcases hc with hc | hc; exact hc; omega
    cases rows with
    | nil => exact absurd rfl h
    | cons r R =>
      cases R with
      | nil => rfl
      | cons q R => simp [joinM] at hlt
  · split
    · rename_i he
      rw [List.isEmpty_iff.mp he, partsBetween_eq] at key
      rw [← key]
      show [_] = [strSub _ 0 _]
      rw [sub_whole]
    · exact key
theorem joinM_rows (m : Nat) : ∀ rows : List (List Nat), joinM m (rows ++ [[]]) = (rows.map (· ++ [m])).flatten
  | [] => rfl
  | [r] => by simp [joinM]
  | r :: q :: R => by
    have := joinM_rows m (q :: R)
    show r ++ m :: joinM m ((q :: R) ++ [[]]) = _
    rw [this]; simp
section
variable {w : World} {A : Around} {E : Value → Shared → Prop} {s : Shared} {g : Shared} {o : Bool} {sc : Scope} {env : Env} {l : List (Str × Value)} {P : Heap → Prop} {Q : Value → Shared → Prop}
theorem splitM_tx {m : Nat} {rows : List (List Nat)} {t u : Tok}
    (F : Fm w g o sc env s l P) (h : rows ≠ []) (h13 : ∀ r ∈ rows, m ∉ r) (hk : Builtin.Str.strKind (tx [m]) = 1) (h1 : rows.length ≤ 1000) (h2 : (joinM m rows).length ≤ 1000000) (k : ∀ D s', Fm w g o sc env s' l (fun h => Strs D rows h ∧ P h) → Q (.ref D) s') :
    wpAny (MM w) A (call (.builtin "str.split") [.str (tx (joinM m rows)) t, .str (tx [m]) u]) Q E s := by
  refine SCG.split1 (Fm := fun s' => Fm w g o sc env s' l P) (fun s' ob tk F' => F'.push ob tk) F (by rw [tx_len]; rfl) (fun D ls s' e F' hl => ?_) (by rw [tx_len]; simp [sizeLine]; omega) (by rw [splitM_parts h h13]; simp [sizeLine]; omega)
  rw [splitM_rows h h13 hk] at e
  have hS := strs_of_values e hl
  exact k D s' (F'.pin (stb_strs _ (hS.off F')) hS)
theorem c_find {x mid post : List Nat} {c : Nat} {t u : Tok} (F : Fm w g o sc env s l P) (hx : x = mid ++ c :: post) (h : c ∉ mid) (k : ∀ t s', Fm w g o sc env s' l P → Q (.int (mid.length : Nat) t) s') :
    wpAny (MM w) A (call (.builtin "str.find") [.str (tx x) t, .str (tx [c]) u]) Q E s := by
  subst hx
  exact SC.find (by rw [find_tx h]; exact k _ _ (F.tok _))
theorem c_find3 {x pre mid post : List Nat} {c : Nat} {i : Int} {t u v : Tok} (F : Fm w g o sc env s l P) (hx : x = pre ++ (mid ++ c :: post)) (hi : i = pre.length) (h : c ∉ mid) (k : ∀ t s', Fm w g o sc env s' l P → Q (.int (pre.length + mid.length : Nat) t) s') :
    wpAny (MM w) A (call (.builtin "str.find") [.str (tx x) t, .str (tx [c]) u, .int i v]) Q E s := by
  subst hi; subst hx
  exact SC.find3 (by rw [find3_tx h]; exact k _ _ (F.tok _))
theorem sub_tup {a : Addr} {vs : Array Value} {i : Int} {t : Tok} {k : Nat} {v : Value} (ha : s.heap.IsTuple a vs) (hi : i = k) (hk : k < vs.size) (h63 : k < 2 ^ 63) (hv : vs[k]? = some v) (h : Q v s) :
    (∃ T id, s.TypeIs (.ref a) T ∧ typeLookup (.type T) "__getitem__" = pure (some (.builtin id))) ∧ wpAny (MM w) A (getItem (.ref a) (.int i t)) Q E s := by
  have ht : IsTup s.heap a vs := ha
  refine ⟨⟨_, _, ht.typeIs, slot_tuple_getitem.lookup⟩, getItem_tuple ht (by omega) (by omega) (j := k) ?_ hv h⟩
  subst hi
  unfold seqIndex?
  simp; omega
noncomputable def intOf (x : List Nat) : Int := (PySem.intText? (tx x)).getD 0
theorem c_int {x : List Nat} {t : Tok} (F : Fm w g o sc env s l P) (hx : ∀ c ∈ x, 48 ≤ c ∧ c ≤ 57) (hne : x ≠ []) (hl : x.length ≤ 600) (k : ∀ t s', Fm w g o sc env s' l P → Q (.int (intOf x) t) s') :
    wpAny (MM w) A (call (.type "int") [.str (tx x) t]) Q E s := by
  have e := intText_digits (x := tx x) (by rw [tx_cps]; exact hx) (by rw [tx_cps]; exact hne) (by rw [tx_len]; omega)
  refine KIN.call_text (n := intOf x) (by unfold intOf; rw [e]; rfl) (by rw [tx_len]; omega) (k _ _ (F.tok _))
end
end Mine
namespace Mine
set_option maxRecDepth 100000
open PySem PySem.W PyProof.Rows

noncomputable def KY (P : Params) : Frag := (KX P).filter fun p => p.1 != 103
theorem lookup_filter {α : Type} {l : List (Addr × α)} {a : Addr} {o : α} (h : (l.filter fun p => p.1 != 103).lookup a = some o) : a ≠ 103 ∧ l.lookup a = some o := by
  induction l with
  | nil => cases h
  | cons p l ih =>
    obtain ⟨k, v⟩ := p
    rw [List.filter_cons] at h
    by_cases hk : k = 103
    · subst hk
      rw [if_neg (by simp)] at h
      obtain ⟨h1, h2⟩ := ih h
      exact ⟨h1, by rw [List.lookup_cons, beq_eq_false_iff_ne.mpr h1]; exact h2⟩
    · rw [if_pos (by simpa using hk), List.lookup_cons] at h
      rw [List.lookup_cons]
      cases hak : (a == k) with
      | true => rw [hak] at h; exact ⟨by rw [beq_iff_eq.mp hak]; exact hk, h⟩
      | false => rw [hak] at h; exact ih h
theorem Wd.ky {w : World} {h : Heap} (W : Wd w h) : (KY w.params).In h := fun a o e => let ⟨h1, h2⟩ := lookup_filter e; W.k a o h1 h2

section
variable {M : Model} {P : Params}
theorem f_pop (P : Params) : findIn (KY P) (.ref 133) "pop_from" = some (some (.ref 87)) := by kernel_rfl
theorem f_push (P : Params) : findIn (KY P) (.ref 133) "push" = some (some (.ref 79)) := by kernel_rfl
theorem f_str (P : Params) : findIn (KY P) (.ref 133) "__str__" = some (some (.ref 108)) := by kernel_rfl
theorem f_init (P : Params) : findIn (KY P) (.ref 133) "__init__" = some (some (.ref 72)) := by kernel_rfl
theorem f_append (P : Params) : findIn (KY P) (.ref 133) "append" = some (some (.builtin "list.append")) := by kernel_rfl
theorem f_getitem (P : Params) : findIn (KY P) (.ref 133) "__getitem__" = some (some (.builtin "list.__getitem__")) := by kernel_rfl
theorem f_setitem (P : Params) : findIn (KY P) (.ref 133) "__setitem__" = some (some (.builtin "list.__setitem__")) := by kernel_rfl
theorem f_iter (P : Params) : findIn (KY P) (.ref 133) "__iter__" = some (some (.builtin "list.__iter__")) := by kernel_rfl
theorem f_setattr (P : Params) : findIn (KY P) (.ref 133) "__setattr__" = some (some (.builtin "object.__setattr__")) := by kernel_rfl
theorem f_getattribute (P : Params) : findIn (KY P) (.ref 133) "__getattribute__" = some (some (.builtin "list.__getattribute__")) := by kernel_rfl
theorem f_getattr (P : Params) : findIn (KY P) (.ref 133) "__getattr__" = some none := by kernel_rfl
end
section
variable {w : World} {A : Around} {R : Result → Shared → Prop} {s : Shared}
theorem chk_new (w : World) : peek (KY w.params) ⟨(MM w).prog, w.params⟩ (checkBuiltinCall "list.__new__" ⟨[.ref 133], []⟩) = some () := by kernel_rfl
theorem pk_isType (w : World) : peek (KY w.params) ⟨(MM w).prog, w.params⟩ (isType (.ref 133)) = some true := by kernel_rfl
theorem pk_sub (w : World) : peek (KY w.params) ⟨(MM w).prog, w.params⟩ (isSubtype (.ref 133) (.type "list")) = some true := by kernel_rfl
theorem pk_made (w : World) : peek (KY w.params) ⟨(MM w).prog, w.params⟩ (Bind.madeBy (.ref 133)) = some (some "list.__new__") := by kernel_rfl
theorem pk_call (w : World) : peek (KY w.params) ⟨(MM w).prog, w.params⟩ (specialOf (.ref 133) "__call__") = some (some (.builtin "type.__call__")) := by kernel_rfl
theorem pk_chkcall (w : World) : peek (KY w.params) ⟨(MM w).prog, w.params⟩ (checkBuiltinCall "type.__call__" ⟨[.ref 133], []⟩) = some () := by kernel_rfl
theorem pk_mro (w : World) : peek (KY w.params) ⟨(MM w).prog, w.params⟩ (mroOf (.ref 133)) = some [.ref 133, .type "list", .type "object"] := by kernel_rfl
theorem pk_init (w : World) : peek (KY w.params) ⟨(MM w).prog, w.params⟩ (typeLookup (.ref 133) "__init__") = some (some (.ref 72)) := by kernel_rfl
theorem pk_self (w : World) : peek (KY w.params) ⟨(MM w).prog, w.params⟩ (isSubtype (.ref 133) (.ref 133)) = some true := by kernel_rfl
theorem pk_bind (w : World) (v : Value) : peek (KY w.params) ⟨(MM w).prog, w.params⟩ (bindSpecial (.ref 72) v) = some (.ref 72, [v]) := by kernel_rfl

noncomputable abbrev accO (d : Addr) (its : List Value) (n : Nat) : Obj := { cls := .ref 133, dict := some d, data := .seq its.toArray n }
theorem acc_new (W : Wd w s.heap) (hq : R (.ok (.ret (.ref (s.heap.objs.size + 1)))) { s with heap := (s.heap.push emptyDict).push (accO s.heap.objs.size [] 0) }) :
    codeAny (MM w) A (.call (.builtin "list.__new__") ⟨[.ref 133], []⟩) R s := by
  have X := W.ky
  refine codeAny_of_tree ?_
  show wpAny _ A.in1 (do checkBuiltinCall "list.__new__" ⟨[.ref 133], []⟩; again (.builtin "list.__new__" ⟨[.ref 133], []⟩)) _ _ s
  refine wpAny_bind ((Looks.of_peek X (chk_new w)).here (wpAny_pure ⟨plainId_quiet PySem.F.plain_list_new _, codeAny_builtin_stack PySem.F.entry_list_new rfl fun p st => ?_⟩))
  have hown := owner_list_new
  simp only [hown]
  refine wpAny_bind ((Looks.of_peek X (pk_isType w)).here ?_)
  refine wpAny_bind ((Looks.of_peek X (pk_sub w)).here ?_)
  refine wpAny_bind (wpAny_pure ?_)
  show wpAny _ _ (newDict >>= _) _ _ s
  refine wpAny_bind (wpAny_newObj_type ?_)
  refine wpAny_bind ?_
  show wpAny _ _ (newObjAsIs (.ref 133) (.seq #[]) (some s.heap.objs.size)) _ _ _
  unfold newObjAsIs classHasDel
  refine wpAny_bind (wpAny_alloc ?_)
  have hC : ∃ o cd, s.heap.get? 133 = some o ∧ o.data = .cls cd ∧ cd.hasDel = false := ⟨_, _, W.k 133 _ (by decide) rfl, rfl, rfl⟩
  obtain ⟨o, cd, e1, e2, e3⟩ := hC
  refine wpAny_bind (wpAny_bind (wpAny_load (Heap.get?_push_of_some _ (Heap.get?_push_of_some _ e1)) ?_))
  rw [e2]
  refine wpAny_pure ?_
  rw [e3]
  refine wpAny_pure (wpAny_pure ?_)
  show R _ _
  rw [Heap.size_push]
  exact hq

theorem acc_call (W : Wd w s.heap) (hq : codeAny (MM w) (A.under (.builtin "type.__call__" ⟨[.ref 133], []⟩)) (.call (.ref 72) ⟨[.ref (s.heap.objs.size + 1)], []⟩) (InitBack (s.heap.objs.size + 1) R) { s with heap := (s.heap.push emptyDict).push (accO s.heap.objs.size [] 0) }) :
    codeAny (MM w) A (.call (.ref 133) ⟨[], []⟩) R s := by
  have X := W.ky
  have hC : ∃ oc od cd sl, s.heap.get? 133 = some ⟨oc, od, .cls cd, sl⟩ := ⟨_, _, _, _, W.k 133 _ (by decide) rfl⟩
  obtain ⟨oc, od, cd, sl, hC⟩ := hC
  refine codeAny_of_tree ?_
  show wpAny _ _ (callAny (.ref 133) _) _ _ _
  refine nd_load hC ?_
  show wpAny _ _ (callAny.viaDunder (.ref 133) _) _ _ _
  unfold callAny.viaDunder
  refine wpAny_bind ((Looks.of_peek X (pk_call w)).here ?_)
  dsimp only
  rw [tc_bind]
  refine wpAny_bind (wpAny_pure (wpAny_bind (wpAny_pure ?_)))
  refine wpAny_pure (a := Fin.again (.call (.builtin "type.__call__") ⟨[.ref 133], []⟩)) (And.intro rfl ?_)
  refine codeAny_call_builtin_at (Code.quiet_builtin _ (by decide +kernel)) entry_typeCall ((Looks.of_peek X (pk_chkcall w)).here ?_)
  unfold Builtin.«type.__call__»
  obtain ⟨hh, g, d, t, os⟩ := s
  have hm : Looks (MM w) hh (mroOf (.ref 133)) _ := Looks.of_peek X (pk_mro w)
  have made : Looks (MM w) hh (Bind.madeBy (.ref 133)) _ := Looks.of_peek X (pk_made w)
  repeat (first | simp only [List.isEmpty_cons, Bool.false_eq_true, if_false] | with_reducible refine wpAny_call ?_ | lk)
  refine acc_new W ?_
  have k : ∀ b o, hh.get? b = some o → ((hh.push emptyDict).push (accO hh.objs.size [] 0)).get? b = some o := fun b o e => Heap.get?_push_of_some _ (Heap.get?_push_of_some _ e)
  have hx : ((hh.push emptyDict).push (accO hh.objs.size [] 0)).get? (hh.objs.size + 1) = some (accO hh.objs.size [] 0) := by heap_get
  have t1 : Looks (MM w) ((hh.push emptyDict).push (accO hh.objs.size [] 0)) (typeOf (.ref (hh.objs.size + 1))) (.ref 133) := (Looks.ld hx).andThen .now
  have s1 : Looks (MM w) ((hh.push emptyDict).push (accO hh.objs.size [] 0)) (isSubtype (.ref 133) (.ref 133)) true := (Looks.of_peek (M := MM w) X (pk_self w)).keeps k
  have i1 : Looks (MM w) ((hh.push emptyDict).push (accO hh.objs.size [] 0)) (typeLookup (.ref 133) "__init__") (some (.ref 72)) := (Looks.of_peek (M := MM w) X (pk_init w)).keeps k
  have b1 : Looks (MM w) ((hh.push emptyDict).push (accO hh.objs.size [] 0)) (bindSpecial (.ref 72) (.ref (hh.objs.size + 1))) (.ref 72, [.ref (hh.objs.size + 1)]) := (Looks.of_peek (M := MM w) X (pk_bind w _)).keeps k
  unfold isInstance callSpecial? specialOf
  repeat (first | with_reducible refine wpAny_call ?_ | lk)
  refine codeAny_mono hq fun r s' z => ?_
  rcases r with e | (v | _ | _ | _) <;> first | exact z | exact z.elim | skip
  obtain ⟨rfl, z⟩ := z
  exact wpAny_pure (wpAny_pure z)
end
end Mine
namespace Mine
set_option maxRecDepth 100000
open PySem PySem.W PyProof.Rows

noncomputable def fdX (s : Stmt) (nm qual : Str) (clo : List (Str × Addr)) (df pm cd ct : Value) : FuncData :=
  { name := nm, qualname := qual, params := fA s, body := .stmts (fB s), scope := fS s, globals := mainGlobals, closure := clo, defaults := df, kwdefaults := .none, doc := .none, pyModule := pm, annotations := none, code := cd, closureTuple := ct, builtins := builtinsNs }
noncomputable def fd72 : FuncData := fdX (mt 0) "__init__" "_Accumulator.__init__" [("__class__", 59)] (.ref 64) (.str "cpy313.email.header" 358) (.ref 71) (.ref 65)
theorem pk_args (P : Params) (S : Setting) (x : Addr) : peek (KY P) S (bindArgs fd72 ⟨[Value.ref x], []⟩) = some [((("self" : Str)), Value.ref x), ((("initial_size" : Str)), Value.int 0 374)] := by kernel_rfl
theorem refuse_acc (self : Value) : refuseLoop self "__setattr__" [.ref 133, .type "list", .type "object"] = pure () := by kernel_rfl
theorem pk_taker (w : World) : peek (KY w.params) ⟨(MM w).prog, w.params⟩ (typeLookup (.ref 133) "_initial_size" >>= fun attr => Builtin.ObjectAttr.storeTaker? attr) = some none := by kernel_rfl

theorem pk_setattr (w : World) : peek (KY w.params) ⟨(MM w).prog, w.params⟩ (typeLookup (.ref 133) "__setattr__") = some (some (.builtin "object.__setattr__")) := by kernel_rfl
theorem pk_topobj (w : World) : peek (KY w.params) ⟨(MM w).prog, w.params⟩ (isSubtype (.ref 133) (.type "object")) = some true := by kernel_rfl
theorem pk_attr (w : World) : peek (KY w.params) ⟨(MM w).prog, w.params⟩ (typeLookup (.ref 133) "_initial_size") = some none := by kernel_rfl
theorem pk_cls (w : World) : peek (KY w.params) ⟨(MM w).prog, w.params⟩ (classData 133 >>= fun cd => pure cd.hasDict) = some true := by kernel_rfl

theorem lkto {α : Type} {M : Model} {A : Around} {t : Sem α} {r : α} {Q : α → Shared → Prop} {E : Value → Shared → Prop} {s : Shared} {h : Heap} (x : Looks M h t r) (e : s.heap = h) (q : Q r s) : wpAny M A t Q E s := x A Q E s (fun _ _ e' => by rw [e]; exact e') q
/-- an _Accumulator -/
noncomputable def Acc (x d : Addr) (its : List Value) (h : Heap) : Prop := ∃ n, h.get? x = some (accO d its n)
theorem Acc.type {x d : Addr} {its : List Value} {h : Heap} {M : Model} (a : Acc x d its h) : Looks M h (typeOf (.ref x)) (.ref 133) := let ⟨_, e⟩ := a; (Looks.ld e).andThen .now

/-- its own dict, with its one entry -/
noncomputable def SizeD (d : Addr) (h : Heap) : Prop := ∃ od hs tk v, h.get? d = some od ∧ od.data = .dict #[⟨hs, .str (Str.ofString "_initial_size") tk, v⟩] 1
theorem kx_133 (w : World) : ∃ cd, clsIn (KY w.params) 133 = some cd ∧ cd.hasDict = true := ⟨_, rfl, rfl⟩
theorem acc_setattr {w : World} {A : Around} {E : Value → Shared → Prop} {s : Shared} {x d : Addr} {its : List Value} {v : Value} {Q : Unit → Shared → Prop} (W : Wd w s.heap) (a : Acc x d its s.heap) (hd : s.heap.get? d = some emptyDict)
    (h : ∀ h' tk, Heap.SameBut d s.heap h' → SizeD d h' → Q () { s with heap := h', toks := tk }) : wpAny (MM w) A (setAttr (.ref x) "_initial_size" v) Q E s := by
  have X := W.ky
  have SF := PySem.F.store_object
  obtain ⟨n, hx⟩ := id a
  refine wpAny_bind (wpAny_mkText (wpAny_bind (wpAny_bind (wpAny_bind (a.type _ _ _ _ (fun _ _ e => e) ((Looks.of_peek X (pk_setattr w)) _ _ _ _ (fun _ _ e => e) (wpAny_holding ?_)))))))
  rw [SF.slot.bind]
  refine wpAny_bind (wpAny_pure (wpAny_bind (wpAny_call ?_)))
  have sub : Looks (MM w) s.heap (isInstance (.ref x) (.type "object")) true := a.type.andThen (Looks.of_peek X (pk_topobj w))
  refine codeAny_call_builtin SF.slot.plain SF.entry (@check_slot (MM w) _ _ { s with toks := s.toks + 1 } "object.__setattr__" "object" "__setattr__" (.ref x) [.str "_initial_size" s.toks, v] [] _ SF.kind SF.split sub (SF.args _ _ _) ?_)
  show wpAny _ _ (Builtin.«object.__setattr__» ⟨[.ref x, .str "_initial_size" s.toks, v], []⟩) _ _ _
  rw [osa_eq, refuse_eq]
  refine wpAny_bind (wpAny_bind (lkto a.type rfl (wpAny_bind (lkto (Looks.of_peek X (pk_mro w)) rfl ?_))))
  rw [refuse_acc]
  refine wpAny_pure (wpAny_bind (lkto a.type rfl (wpAny_bind (lkto (Looks.of_peek X (pk_attr w)) rfl (wpAny_bind (wpAny_pure ?_))))))
  obtain ⟨cd, hc, hcd⟩ := kx_133 w
  refine wpAny_bind (wpAny_pure (wpAny_bind (wpAny_bind (wpAny_loadPart hx (wpAny_bind (lkto (looks_clsIn X hc) rfl ?_))))))
  rw [hcd]
  refine wpAny_pure (a := some d) (wpAny_bind (wpAny_pure (wpAny_bind ?_)))
  unfold nsSet
  refine wpAny_bind (wpAny_bind (wpAny_askSetting (wpAny_pure (wpAny_bind (wpAny_mkText (wpAny_bind (wpAny_loadPart hd ?_)))))))
  dsimp only
  rw [aRefKeyMayBeTheName_at]
  generalize hk : (if (Str.ofString "_initial_size").cps.isEmpty = true then (0 : Int) else _) = hash
  have hput : (Obj.putName (Str.ofString "_initial_size") hash (Value.str (Str.ofString "_initial_size") (s.toks + 1)) v emptyDict).data = .dict #[⟨hash, .str (Str.ofString "_initial_size") (s.toks + 1), v⟩] 1 := rfl
  rw [if_neg (by simp)]
  refine wpAny_updatePart hd ?_
  have D' := Heap.get?_update_self (h := s.heap) (Obj.putName (Str.ofString "_initial_size") hash (Value.str (Str.ofString "_initial_size") (s.toks + 1)) v) hd (by rfl)
  refine wpAny_bind (wpAny_lookBehind D' (by rw [hput]; exact pastItsLine_dict (by simp [sizeLine])) ?_)
  refine wpAny_pure ?_
  exact wpAny_pure (wpAny_pure (h _ _ (Heap.SameBut.update ..) ⟨_, _, _, _, D', hput⟩))
end Mine
namespace Mine
set_option maxRecDepth 100000
set_option maxHeartbeats 400000
open PySem PySem.W PyProof.Rows

theorem slot_wget : Slot "wrapper_descriptor" "__get__" "wrapper_descriptor.__get__" := .of (owner := "wrapper_descriptor") (n := "__get__") (by rw [typeLookup_type, builtinLookup_eq_fast]; kernel_rfl) (by decide +kernel) (by decide +kernel) (by decide +kernel)
  (by first | exact .inl (by decide +kernel) | exact .inr (by decide +kernel)) (by rw [isSubtype_type]; kernel_rfl)
theorem entry_wget : entryFor table "wrapper_descriptor.__get__" = some Builtin.«wrapper_descriptor.__get__» := entryFor_of_tree (by kernel_rfl)
theorem args_wget (a b c : Value) : argsOk "wrapper_descriptor.__get__" ⟨[a, b, c], []⟩ := by unfold argsOk; kernel_rfl
theorem type_linit : typeOf (.builtin "list.__init__") = pure (.type "wrapper_descriptor") := by show builtinType _ = _; rw [builtinType_eq_fast]; kernel_rfl
theorem pk_along (w : World) : alongIn (KY w.params) "__init__" [.type "list", .type "object"] = some (some (.builtin "list.__init__")) := by kernel_rfl
theorem looks_opq {M : Model} {h : Heap} {C : Addr} (o : Opq h) : Looks M h (opaqueClassAbove (.ref C)) none := fun A Q E s k q => by
  obtain ⟨mc, hn, hm⟩ := o
  refine wpAny_bind (wpAny_bind (wpAny_nsGet (hn.keeps k) ?_))
  rw [hm]
  exact wpAny_pure (wpAny_pure q)
theorem pk_own (w : World) : ownIn (KY w.params) "__init__" (.type "list") = some (some (.builtin "list.__init__")) := by kernel_rfl
theorem pk_sublist (w : World) : peek (KY w.params) ⟨(MM w).prog, w.params⟩ (isSubtype (.ref 133) (.type "list")) = some true := by kernel_rfl

section
variable {w : World} {A : Around} {E : Value → Shared → Prop} {h : Heap} {g : Array GenState} {d : Drawn} {t : Nat} {os : OsState}
theorem run_wget {x dd : Addr} {its : List Value} {Q : Fin → Shared → Prop} (W : Wd w h) (a : Acc x dd its h)
    (hq : Q (.done (.ret (.ref h.objs.size))) ⟨h.push { cls := .type "method-wrapper", data := .fields #[.builtin "list.__init__", .ref x] }, g, d, t, os⟩) :
    wpAny (MM w) A (Builtin.«wrapper_descriptor.__get__» ⟨[.builtin "list.__init__", .ref x, .ref 133], []⟩) Q E ⟨h, g, d, t, os⟩ := by
  have hin : Looks (MM w) h (isInstance (.ref x) (.type "list")) true := a.type.andThen (Looks.of_peek W.ky (pk_sublist w))
  unfold Builtin.«wrapper_descriptor.__get__»
  refine wpAny_bind (wpAny_of_eq (a := (.builtin "list.__init__", some (.ref x), some (.ref 133))) (by first | rfl | kernel_rfl) ?_)
  refine wpAny_bind ?_
  refine wpAny_bind (wpAny_of_eq (a := (("__init__" : Str), Value.type "list")) (by first | kernel_rfl | rfl) ?_)
  refine wpAny_bind (Looks.at hin ?_)
  refine wpAny_pure ?_
  exact wpAny_bind (wpAny_newObj_type (wpAny_pure hq))
theorem sup_ga {so x dd : Addr} {its : List Value} {tk : Tok} {Q : Fin → Shared → Prop} (W : Wd w h) (a : Acc x dd its h) (hxC : x ≠ 133)
    (hso : h.get? so = some { cls := .type "super", dict := none, data := .fields #[.ref 133, .ref x, .ref 133], slots := #[] })
    (hq : Q (.done (.ret (.ref h.objs.size))) ⟨h.push { cls := .type "method-wrapper", data := .fields #[.builtin "list.__init__", .ref x] }, g, d, t, os⟩) :
    wpAny (MM w) A (Builtin.«super.__getattribute__» ⟨[.ref so, .str "__init__" tk], []⟩) Q E ⟨h, g, d, t, os⟩ := by
  have X := W.ky
  have hlk := slot_wget.lookup
  have hno : Looks (MM w) h (opaqueClassAbove (.ref 133)) none := looks_opq W.opq
  have hC : Looks (MM w) h (mroOf (.ref 133)) _ := Looks.of_peek X (pk_mro w)
  have hty := type_linit
  have hin : Looks (MM w) h (isInstance (.ref x) (.type "list")) true := a.type.andThen (Looks.of_peek X (pk_sublist w))
  have hne : (Value.ref x == Value.ref 133) = false := by simp [hxC]
  have hn : (("__init__" : Str) == ("__class__" : Str)) = false := by decide +kernel
  have hdt : ({ cls := .type "super", dict := none, data := .fields #[.ref 133, .ref x, .ref 133], slots := #[] } : Obj).data = .fields #[.ref 133, .ref x, .ref 133] := rfl
  have f0 : (#[.ref 133, .ref x, .ref 133] : Array Value)[0]? = some (.ref 133) := rfl
  have f1 : (#[.ref 133, .ref x, .ref 133] : Array Value)[1]? = some (.ref x) := rfl
  have f2 : (#[.ref 133, .ref x, .ref 133] : Array Value)[2]? = some (.ref 133) := rfl
  have hl : (([.ref 133, .type "list", .type "object"] : List Value).dropWhile (· != .ref 133)).drop 1 = [.type "list", .type "object"] := by decide +kernel
  unfold Builtin.«super.__getattribute__»
  iterate 20 (first
    | (with_reducible refine wpAny_field hso hdt f0 ?_) | (with_reducible refine wpAny_field hso hdt f1 ?_) | (with_reducible refine wpAny_field hso hdt f2 ?_)
    | (with_reducible refine ks_wpAny_notOpaque hno ?_)
    | (with_reducible refine Looks.at hC ?_; rw [hl])
    | (refine ks_forIn_along X (fun _ _ => rfl) rfl ?_ (pk_along w))
    | (with_reducible refine wpAny_of_eq hty ?_)
    | (simp only [hn, hne, Bool.or_false, Bool.false_eq_true, if_false])
    | wp_step
    | dsimp only)
  refine wpAny_bind (Looks.at hC ?_)
  rw [hl]
  have hown : Looks (MM w) h (classOwn (.type "list") "__init__") (some (.builtin "list.__init__")) := looks_ownIn X (pk_own w)
  rw [List.forIn_cons]
  refine wpAny_bind (wpAny_bind (wpAny_bind (Looks.at hown ?_)))
  dsimp only
  refine wpAny_bind (wpAny_of_eq hty ?_)
  refine wpAny_bind (wpAny_of_eq hlk ?_)
  dsimp only
  refine wpAny_bind (wpAny_holding (wpAny_call_entry slot_wget type_linit entry_wget (run_wget W a ⟨_, rfl, ?_⟩) (args_wget _ _ _)))
  refine wpAny_pure (wpAny_pure (wpAny_pure ?_))
  exact hq
end
end Mine
namespace Mine
set_option maxRecDepth 100000
open PySem PySem.W PyProof.Rows

noncomputable abbrev mwO (x : Addr) : Obj := { cls := .type "method-wrapper", dict := none, data := .fields #[.builtin "list.__init__", .ref x], slots := #[] }
theorem check_linit (x : Addr) : checkBoundCall "list.__init__" ⟨[.ref x], []⟩ = pure () := by first | rfl | kernel_rfl
theorem quiet_linit {as : Args} : (Code.builtin "list.__init__" as).quiet = true := Code.quiet_builtin _ (by decide +kernel)

section
variable {w : World} {A : Around} {E : Value → Shared → Prop} {h : Heap} {g : Array GenState} {d : Drawn} {t : Nat} {os : OsState}
theorem mw_get {so x dd : Addr} {its : List Value} {pl : Sem Bool} {Q : Value × List Value → Shared → Prop} (W : Wd w h) (a : Acc x dd its h) (hxC : x ≠ 133)
    (hso : h.get? so = some { cls := .type "super", dict := none, data := .fields #[.ref 133, .ref x, .ref 133], slots := #[] })
    (hq : Q (.ref h.objs.size, []) ⟨h.push (mwO x), g, d, t + 1, os⟩) :
    wpAny (MM w) A (getMethod (.ref so) "__init__" pl) Q E ⟨h, g, d, t, os⟩ := by
  have hlk := PySem.F.ks_slot_super_ga.lookup
  have hcan := PySem.F.ks_canon_super_ga
  have hT : ∀ t', (⟨h, g, d, t', os⟩ : Shared).TypeIs (.ref so) "super" := fun _ => ⟨_, hso, rfl⟩
  unfold getMethod
  refine wpAny_bind (wpAny_specialOf (hT _) hlk ?_)
  show wpAny _ _ (if (Manifest.canonical "super.__getattribute__" != "object.__getattribute__") = true then _ else _) _ _ _
  rw [if_pos hcan]
  unfold getAttr getAttrBy
  refine wpAny_bind (wpAny_bind (wpAny_mkText (wpAny_holding (wpAny_bind (wpAny_typeOf (hT _) (wpAny_bind (wpAny_of_eq hlk ?_)))))))
  show wpAny _ _ (getAttrByItsOwn (.ref so) (.str "__init__" t) (.type "super") (.builtin "super.__getattribute__") true false) _ _ _
  unfold getAttrByItsOwn hookBefore callGetattribute boundAndCalled
  refine wpAny_bind (wpAny_of_eq (show (if onTheHeap (.type "super") then typeLookup (.type "super") "__getattr__" else pure none) = pure none from rfl) ?_)
  refine wpAny_bind (wpAny_attempt (wpAny_holding ?_))
  show wpAny _ _ (bindSpecial (.builtin "super.__getattribute__") (.ref so) >>= _) _ _ _
  refine wpAny_bind (wpAny_of_eq (PySem.F.ks_slot_super_ga.bind _) ?_)
  refine wpAny_mono (Q := fun v s' => v = .ref h.objs.size ∧ s' = ⟨h.push (mwO x), g, d, t + 1, os⟩) (E := fun _ _ => False)
    (wpAny_call_entry PySem.F.ks_slot_super_ga (hT _) PySem.F.ks_entry_super_ga (sup_ga W a hxC hso ⟨_, rfl, rfl, rfl⟩) (PySem.F.ks_gaArgs_super _ _)) (fun v s' hv => ?_) fun _ _ z => z.elim
  obtain ⟨rfl, rfl⟩ := hv
  exact wpAny_pure (wpAny_pure hq)
end
section
variable {w : World} {A B : Around} {E : Value → Shared → Prop} {s : Shared}
theorem mw_tree {x dd : Addr} {R : Result → Shared → Prop} (a : Acc x dd [] s.heap) (h : ∀ h', Heap.SameBut x s.heap h' → Acc x dd [] h' → R (.ok (.ret .none)) { s with heap := h' }) :
    wpAny (MM w) B (Builtin.«list.__init__» ⟨[.ref x], []⟩)
      (fun fin s' => match fin with | .done f => R (.ok f) s' | .again c' => c'.quiet = true ∧ codeAny (MM w) A c' R s') (fun e s' => R (.error e) s') s := by
  obtain ⟨n, hx⟩ := a
  show wpAny _ B (do let old ← Builtin.List.listItems (.ref x); Builtin.List.listUpdate (.ref x) (fun _ => #[]); letGo old.toList.reverse; ret .none) _ _ s
  refine wpAny_bind ?_
  unfold Builtin.List.listItems
  refine wpAny_bind (wpAny_seqItems hx rfl (wpAny_pure ?_))
  show wpAny _ B (updateSeq x (fun _ => #[]) >>= fun _ => letGo (#[] : Array Value).toList.reverse >>= fun _ => ret .none) _ _ s
  refine wpAny_bind (wpAny_updateSeq hx rfl ?_)
  have hS₂ := Heap.get?_update_self (Obj.mapSeq (fun _ => (#[] : Array Value))) hx rfl
  refine wpAny_bind (wpAny_letGo ?_)
  exact wpAny_pure (h _ (Heap.SameBut.update ..) ⟨_, by simpa [Obj.mapSeq] using hS₂⟩)
theorem mw_call {u x dd : Addr} {Q : Value → Shared → Prop} (a : Acc x dd [] s.heap) (ho : s.heap.get? u = some (mwO x)) (h : ∀ h', Heap.SameBut x s.heap h' → Acc x dd [] h' → Q .none { s with heap := h' }) :
    wpAny (MM w) A (call (.ref u) []) Q E s := by
  refine wpAny_call (codeAny_of_tree ?_)
  show wpAny _ A.in1 (callAny (.ref u) ⟨[], []⟩) _ _ s
  simp only [callAny]
  refine wpAny_bind (wpAny_load ho ?_)
  simp only [show (Value.type "method-wrapper" == Value.type "method" || Value.type "method-wrapper" == Value.type "builtin_function_or_method" || Value.type "method-wrapper" == Value.type "method-wrapper") = true by decide, show (Value.type "method-wrapper" != Value.type "method") = true by decide, if_true]
  refine wpAny_bind (wpAny_of_eq (a := ()) (check_linit x) ?_)
  refine wpAny_bind (wpAny_pure (wpAny_pure ?_))
  refine ⟨quiet_linit, ?_⟩
  show codeAny (MM w) A (.builtin "list.__init__" ⟨[.ref x], []⟩) _ s
  exact codeAny_builtin PySem.F.entry_list_init (mw_tree (R := fun r s' => match r with | .ok (.ret v) => Q v s' | .ok _ => False | .error e => E e s') a fun h' hs hA => h h' hs hA)
theorem mw_callWith {pos : Pos} {u x : Addr} {env : Env} {Q : Value → Shared → Prop} (ho : s.heap.get? u = some (mwO x)) (h : wpAny (MM w) A (call (.ref u) []) Q E s) :
    wpAny (MM w) A (callWith pos (.ref u) [] (backTo pos (starEach [] env)) []) Q E s :=
  callWith_of (P := fun h => h.get? u = some (mwO x)) rfl (fun _ e => ⟨.machine, .inr (.inl rfl), (Looks.ld (part := none) e).andThen .now⟩) (evalArgs_nil3 ⟨ho, h⟩)
end
end Mine
namespace Mine
set_option maxRecDepth 100000
open PySem PySem.W PyProof.Rows

/-- an _Accumulator with its dict -/
noncomputable def Ac (x d : Addr) (its : List Value) (h : Heap) : Prop := Acc x d its h ∧ SizeD d h ∧ d ≠ x ∧ x ≠ 133
theorem BindsTo72 {w : World} {s : Shared} (W : Wd w s.heap) (x : Addr) : BindsTo s fd72 ⟨[Value.ref x], []⟩ [("self", Value.ref x), ("initial_size", Value.int 0 374)] :=
  fun M _ _ _ hq => Looks.here (Looks.of_peek (M := M) W.ky (pk_args w.params _ x)) hq
theorem fn_init (P : Params) : fnOk P 72 fd72 := ⟨by decide, by kernel_rfl⟩
theorem kx_cell (P : Params) : (KX P).lookup 59 = some ⟨.type "cell", none, .cell (some (.ref 133)), #[]⟩ := by kernel_rfl
theorem kx_code71 (P : Params) : ∃ vs, (KX P).lookup 71 = some ⟨.type "code", none, .fields vs, #[]⟩ ∧ vs[2]? = some (.str "/claim/cut.py" 377) := ⟨_, rfl, rfl⟩
theorem Acc.keep {x d : Addr} {its : List Value} {h h' : Heap} (a : Acc x d its h) (k : ∀ b o, h.get? b = some o → b = x → h'.get? b = some o) : Acc x d its h' := let ⟨n, e⟩ := a; ⟨n, k _ _ e rfl⟩
theorem bt_super : bootBuiltins "super" = some (.type "super") := by kernel_rfl
theorem gl_super (P : Params) : glob P "super" = none := by kernel_rfl

theorem init_code {w : World} {A : Around} {R : Result → Shared → Prop} {s0 s : Shared} {x d : Addr} (W0 : Wd w s0.heap) (G : Gw s0 s) (hr : A.depth < recursionLimit) (a : Acc x d [] s.heap) (hd : s.heap.get? d = some emptyDict)
    (hx : s0.heap.objs.size ≤ x) (hdd : s0.heap.objs.size ≤ d) (hne : d ≠ x) (h : ∀ s', Gw s0 s' → Ac x d [] s'.heap → R (.ok (.ret .none)) s') :
    codeAny (MM w) A (.call (.ref 72) ⟨[.ref x], []⟩) R s := by
  have W := Wd.gw G W0
  have hx3 : x ≠ 133 := fun e => absurd (Heap.lt_size (W0.k 133 _ (by decide) rfl)) (by rw [← e]; exact Nat.not_lt.mpr hx)
  refine ks_codeAny_call_defAt (fd := fd72) (body := fB (mt 0)) hr (W.k 72 _ (by decide) (fn_init _).2) rfl W.nolimit (W.code (by kernel_rfl)) rfl (BindsTo72 W x) (by decide +kernel) (by intro y hy; simp at hy; rcases hy with rfl | rfl <;> kernel_rfl) (fun h₀ hns hk => ?_)
    (by kernel_rfl) (by kernel_rfl) (by kernel_rfl)
  conv in fB _ => whnf
  have hsz : s.heap.objs.size ≤ h₀.objs.size := Nat.le_of_lt hns.lt
  have G1 : Gw s0 { s with heap := h₀, toks := s.toks + 2 } := G.trans (.of_keep hk hsz)
  have a1 : Acc x d [] h₀ := a.keep fun b o e _ => hk b o e
  have hd1 : h₀.get? d = some emptyDict := hk _ _ hd
  have hkk : (callEnv fd72 s.heap.objs.size 72).scope.kind = .function := by kernel_rfl
  refine ks_wpAt_execs_cons (ks_wpAt_Assign_Attr (wpAt_of_wpAny (wpAny_Name (wpAny_loadName_local hkk (by kernel_rfl) hns (by rfl) ?_) (by decide +kernel))) (by rfl))
  refine wpAny_Name (wpAny_loadName_local hkk (by kernel_rfl) hns (by rfl) ?_) (by decide +kernel)
  refine acc_setattr (s := { s with heap := h₀, toks := s.toks + 2 }) (Wd.gw G1 W0) a1 hd1 fun h₂ tk hs₂ hD => ?_
  have hdlt : d < s.heap.objs.size := Heap.lt_size hd
  have G2 : Gw s0 { s with heap := h₂, toks := tk } := G1.but hdd hs₂ tk
  have W2 := Wd.gw G2 W0
  have hns2 := hns.sameBut hs₂ (Nat.ne_of_gt hdlt)
  have a2 : Acc x d [] h₂ := a1.keep fun b o e hb => hs₂.extBut b o (by rw [hb]; exact hne.symm) e
  obtain ⟨vs, hcode, hvs⟩ := kx_code71 w.params
  obtain ⟨n, hxo⟩ := id a2
  refine ks_wpAt_execs_cons (ks_wpAt_Expr_any ?_ (by rfl) (by rfl))
  refine ks_wpAt_MethodCall (pl := ?pl) ?_ ?he
  case he => exact rfl
  refine ks_wpAt_super_base (env := callEnv fd72 s.heap.objs.size 72) (by kernel_rfl) (by kernel_rfl) (by decide +kernel) rfl (W2.k 72 _ (by decide) (fn_init _).2) rfl rfl rfl (W2.k 71 _ (by decide) hcode) rfl hvs (by kernel_rfl) (by kernel_rfl) ?_
  obtain ⟨mb, hb, hm⟩ := W2.b
  refine ks_loadName_global hkk (by kernel_rfl) (Calls.loadGlobal_builtin W2.g (gl_super _) hb ((hm _ (by decide +kernel)).trans bt_super) ⟨rfl, ?_⟩)
  refine wpAny_loadName_free (c := 59) hkk (by kernel_rfl) (by kernel_rfl) ⟨_, W2.k 59 _ (by decide) (kx_cell _), rfl⟩ ?_ (by decide +kernel)
  refine wpAny_loadName_local hkk (by kernel_rfl) hns2 (by rfl) ?_
  have hC : ∃ oc od cd sl, h₂.get? 133 = some ⟨oc, od, .cls cd, sl⟩ := ⟨_, _, _, _, W2.k 133 _ (by decide) rfl⟩
  obtain ⟨oc, od, cd, sl, hC⟩ := hC
  refine ks_wpAny_isType_cls hC rfl ⟨rfl, ?_⟩
  refine ks_wpAny_call_super hC rfl hxo rfl (fun c e => nomatch e) (Looks.of_peek W2.ky (pk_self w)) fun h₃ e3 k3 => ?_
  have G3 : Gw s0 { s with heap := h₃, toks := tk } := G2.trans (.of_keep k3 (Nat.le_of_lt (Heap.lt_size e3)))
  have a3 : Acc x d [] h₃ := a2.keep fun b o e _ => k3 b o e
  refine mw_get (Wd.gw G3 W0) a3 hx3 e3 ?_
  have G4 : Gw s0 { s with heap := h₃.push (mwO x), toks := tk + 1 } := G3.push _ _
  have a4 : Acc x d [] (h₃.push (mwO x)) := a3.keep fun b o e _ => Heap.get?_push_of_some _ e
  have ho : (h₃.push (mwO x)).get? h₃.objs.size = some (mwO x) := Heap.get?_push_size _ rfl
  refine mw_callWith ho (mw_call a4 ho fun h₅ hs₅ a5 => ?_)
  refine wpAt_of_wpAny (e_nil ?_)
  obtain ⟨od', hs', tk', v', e', ed'⟩ := hD
  refine h _ (G4.but hx hs₅ (tk + 1)) ⟨a5, ⟨od', hs', tk', v', hs₅.extBut _ _ hne (Heap.get?_push_of_some _ (k3 _ _ e')), ed'⟩, hne, hx3⟩
end Mine
namespace Mine
set_option maxRecDepth 100000
open PySem PySem.W PyProof.Rows

theorem Ac.own {x d : Addr} {its : List Value} {h : Heap} (a : Ac x d its h) : ∃ n od hs tk v, h.get? x = some (accO d its n) ∧ h.get? d = some od ∧ od.data = .dict #[⟨hs, .str (Str.ofString "_initial_size") tk, v⟩] 1 ∧ d ≠ x ∧ x ≠ 133 :=
  let ⟨⟨n, e⟩, ⟨od, hs, tk, v, e', ed⟩, ne, nc⟩ := a; ⟨n, od, hs, tk, v, e, e', ed, ne, nc⟩
theorem Ac.type {x d : Addr} {its : List Value} {h : Heap} {M : Model} (a : Ac x d its h) : Looks M h (typeOf (.ref x)) (.ref 133) := a.1.type
theorem Ac.inst {x d : Addr} {its : List Value} {h : Heap} (a : Ac x d its h) : ∃ ox od, InstAt h x ox 133 (some od) ∧ ∃ hs tk v, od.data = .dict #[⟨hs, .str (Str.ofString "_initial_size") tk, v⟩] 1 :=
  let ⟨_, od, hs, tk, v, e, e', ed, _, _⟩ := a.own; ⟨_, od, ⟨e, rfl, rfl, e'⟩, hs, tk, v, ed⟩

section
variable {w : World} {A : Around} {E : Value → Shared → Prop} {s : Shared} {x d : Addr} {its : List Value}

theorem Ac.sub (a : Ac x d its s.heap) (W : Wd w s.heap) : Looks (MM w) s.heap (isInstance (.ref x) (.type "list")) true := a.type.andThen (Looks.of_peek W.ky (pk_sublist w))
theorem ac_check {id nm : String} {rest : List Value} {Q : Unit → Shared → Prop} (a : Ac x d its s.heap) (W : Wd w s.heap) (hk : builtinKind id = some .slot ∨ builtinKind id = some .method) (hs : splitId id = some ("list", nm))
    (ha : argsOk id ⟨.ref x :: rest, []⟩) (q : Q () s) : wpAny (MM w) A (checkBuiltinCall id ⟨.ref x :: rest, []⟩) Q E s := by
  have hi := a.sub W
  rcases hk with hk | hk
  all_goals
    simp only [checkBuiltinCall, hk, hs]
    refine wpAny_bind (hi.here ?_)
    simp only [Bool.not_true, Bool.false_eq_true, if_false]
    cases hsig : Manifest.signature? id with
    | none => exact wpAny_pure q
    | some sig =>
      simp only [argsOk, hsig] at ha
      have h2 : Bind.checkArgs id sig ⟨.ref x :: rest, []⟩ = pure () := ha
      show wpAny (MM w) A (Bind.checkArgs id sig ⟨.ref x :: rest, []⟩) Q E s
      rw [h2]; exact wpAny_pure q
theorem ac_call {id nm : String} {b : Builtin} {rest : List Value} {Q : Value → Shared → Prop} (a : Ac x d its s.heap) (W : Wd w s.heap) (hp : plainId id = true) (hb : entryFor table id = some b) (hk : builtinKind id = some .slot ∨ builtinKind id = some .method)
    (hs : splitId id = some ("list", nm)) (ha : argsOk id ⟨.ref x :: rest, []⟩) (h : wpAny (MM w) A.in1 (b ⟨.ref x :: rest, []⟩) (fun fin s' => ∃ v, fin = .done (.ret v) ∧ Q v s') E s) : wpAny (MM w) A (call (.builtin id) (.ref x :: rest)) Q E s := by
  refine wpAny_call (codeAny_call_builtin hp hb (ac_check a W hk hs ha (wpAny_mono h (fun fin s' h' => ?_) fun _ _ h' => h')))
  obtain ⟨v, rfl, hv⟩ := h'; exact hv
theorem ac_special {name : Str} {v : Option Value} {Q : Option Value → Shared → Prop} (a : Ac x d its s.heap) (W : Wd w s.heap) (hf : findIn (KY w.params) (.ref 133) name = some v) (q : Q v s) : wpAny (MM w) A (specialOf (.ref x) name) Q E s :=
  wpAny_bind (a.type.here ((looks_findIn W.ky hf).here q))
theorem ac_callSpecial {name : Str} {id nm : String} {b : Builtin} {rest : List Value} {Q : Option Value → Shared → Prop} (a : Ac x d its s.heap) (W : Wd w s.heap) (hf : findIn (KY w.params) (.ref 133) name = some (some (.builtin id)))
    (hbd : ∀ self, bindSpecial (.builtin id) self = pure (.builtin id, [self])) (hp : plainId id = true) (hb : entryFor table id = some b) (hk : builtinKind id = some .slot ∨ builtinKind id = some .method)
    (hs : splitId id = some ("list", nm)) (ha : argsOk id ⟨.ref x :: rest, []⟩) (h : wpAny (MM w) A.in1 (b ⟨.ref x :: rest, []⟩) (fun fin s' => ∃ v, fin = .done (.ret v) ∧ Q (some v) s') E s) : wpAny (MM w) A (callSpecial? (.ref x) name rest) Q E s := by
  obtain ⟨ox, od, I, _⟩ := a.inst
  exact kfo_special W.ky I hf hbd (ac_call (Q := fun v => Q (some v)) a W hp hb hk hs ha h)
theorem canon_list_ga : (Manifest.canonical "list.__getattribute__" != "object.__getattribute__") = false := by decide +kernel

theorem ac_method {name : Str} {v : Value} {T : String} {pl : Sem Bool} {Q : Value × List Value → Shared → Prop} (a : Ac x d its s.heap) (W : Wd w s.heap) (hf : findIn (KY w.params) (.ref 133) name = some (some v)) (ht : typeIn (KY w.params) v = some (.type T))
    (hT : (Value.type T != .type "function" && Value.type T != .type "method_descriptor" && Value.type T != .type "wrapper_descriptor") = false) (hn : (Str.ofString "_initial_size" == name) = false) (h : Q (v, [.ref x]) s) :
    wpAny (MM w) A (getMethod (.ref x) name pl) Q E s := by
  have hcan := canon_list_ga
  have X := W.ky
  obtain ⟨n, od, hs, tk, v', e, e', ed, _⟩ := a.own
  unfold getMethod
  refine wpAny_bind (ac_special a W (f_getattribute _) ?_)
  dsimp only
  rw [hcan, if_neg (by decide)]
  refine wpAny_bind (ac_special a W (f_getattr _) ?_)
  refine wpAny_bind (ac_special a W hf (wpAny_bind ((looks_typeIn X ht).here ?_)))
  rw [if_neg (by rw [hT]; decide)]
  refine wpAny_bind (wpAny_loadPart e ?_)
  refine wpAny_bind (wpAny_bind (wpAny_loadPart e' ?_))
  have hl : lookIn name od = some none := by
    unfold lookIn
    rw [ed]
    have h1 : Value.isStr (.str (Str.ofString "_initial_size") tk) name = false := hn
    simp [h1, DictEntry.refKey]
  rw [nsLook_of hl]
  refine wpAny_pure ?_
  exact wpAny_bind (wpAny_rule (wpAny_pure h))

theorem ac_slice {sl : Addr} {vl vu : Value} {lo hi : Option Int} {Q : Value → Shared → Prop} (a : Ac x d its s.heap) (W : Wd w s.heap) (hs : s.heap.IsSliceOf sl vl vu .none) (pl : IsPart vl lo) (pu : IsPart vu hi) (hsz : its.length ≤ sizeLine)
    (h : Q (.ref s.heap.objs.size) { s with heap := s.heap.push { cls := .type "list", data := .seq (slicePick its.toArray lo hi none) } }) : wpAny (MM w) A (getItem (.ref x) (.ref sl)) Q E s := by
  obtain ⟨n, od, hs', tk, v', e, e', ed, _⟩ := a.own
  obtain ⟨os, hos, hcs, hds⟩ := id hs
  have hTs : s.TypeIs (.ref sl) "slice" := ⟨os, hos, hcs⟩
  unfold getItem
  refine wpAny_holding ?_
  refine wpAny_bind ?_
  unfold sequenceKey
  refine wpAny_bind (a.type.here ?_)
  refine (Looks.of_peek (K := KY w.params) (r := .ref sl) W.ky ?e).here ?_
  case e => kernel_rfl
  refine wpAny_bind (ac_callSpecial a W (f_getitem _) PySem.F.slot_list_getitem.bind PySem.F.slot_list_getitem.plain PySem.F.entry_list_getitem (.inr (by decide +kernel)) (nm := "__getitem__") (by decide +kernel) (args_list_getitem _ _) ?_)
  show wpAny _ _ (Builtin.List.listSubscript? (.ref sl) >>= _) _ _ s
  refine wpAny_bind ?_
  unfold Builtin.List.listSubscript?
  refine wpAny_bind (wpAny_specialOf hTs slice_no_index ?_)
  simp only [Option.isNone_none, if_true]
  refine wpAny_pure ?_
  show wpAny _ _ (typeOf (.ref sl) >>= _) _ _ s
  refine wpAny_bind (wpAny_typeOf hTs ?_)
  rw [if_neg (by decide)]
  rw [listSliceParts_eq]
  refine wpAny_bind (wpAny_bind (wpAny_field hos hds (x := .none) rfl (wpAny_bind (wpAny_listPart .none ?_))))
  rw [if_neg (by decide)]
  refine wpAny_bind (wpAny_field hos hds (x := vl) rfl (wpAny_bind (wpAny_listPart pl ?_)))
  refine wpAny_bind (wpAny_field hos hds (x := vu) rfl (wpAny_bind (wpAny_listPart pu (wpAny_pure ?_))))
  refine wpAny_bind (m := Builtin.List.listItems (.ref x)) ?_
  unfold Builtin.List.listItems
  refine wpAny_bind (wpAny_seqItems e rfl (wpAny_pure ?_))
  refine wpAny_bind (wpAny_of_eq (sliceIndices_raw lo hi none its.toArray.size (by simp)) ?_)
  refine wpAny_bind (wpAny_newObj_type (wpAny_pure ⟨_, rfl, wpAny_pure h⟩) (Nat.le_trans (slicePick_size_le its.toArray lo hi none) (by simpa using hsz)))

theorem Ac.put (a : Ac x d its s.heap) (f : Array Value → Array Value) {its' : List Value} (hf : f its.toArray = its'.toArray) : Ac x d its' (s.heap.update x (Obj.mapSeq f)) := by
  obtain ⟨n, od, hs, tk, v, e, e', ed, ne, nc⟩ := a.own
  have h1 := Heap.get?_update_self (Obj.mapSeq f) e rfl
  refine ⟨⟨if (its'.toArray.size == its.toArray.size) = true then n else n + 1, by rw [h1]; simp only [Obj.mapSeq, hf]⟩, ⟨od, hs, tk, v, ?_, ed⟩, ne, nc⟩
  exact (Heap.get?_update_other _ _ (Ne.symm ne)).trans e'

theorem sb_from (k n : Nat) (h : k ≤ n) : sliceBounds (some (k : Int)) none none n = ((k : Int), (n : Int), 1) := by
  simp only [sliceBounds, Option.getD_none, show (1 : Int) > 0 by decide, if_true, if_neg (show ¬ ((k : Int) < 0) by omega)]
  congr 1
  omega
theorem ac_cut {sl q : Addr} {k : Nat} {t : Tok} {Q : Unit → Shared → Prop} (a : Ac x d its s.heap) (W : Wd w s.heap) (hs : s.heap.IsSliceOf sl (.int k t) .none .none) (hl : Ls q [] s.heap) (hk : k ≤ its.length) (hsz : its.length ≤ sizeLine)
    (h : ∀ h', Heap.SameBut x s.heap h' → Ac x d (its.take k) h' → Q () { s with heap := h' }) : wpAny (MM w) A (setItem (.ref x) (.ref sl) (.ref q)) Q E s := by
  obtain ⟨n, od, hs', tk, v', e, e', ed, _⟩ := a.own
  obtain ⟨os, hos, hcs, hds⟩ := id hs
  obtain ⟨oq, hoq, hcq, nq, hdq⟩ := id hl
  have hxq : x ≠ q := fun e2 => by rw [← e2, e] at hoq; cases hoq; cases hcq
  have hTs : s.TypeIs (.ref sl) "slice" := ⟨os, hos, hcs⟩
  have hTq : s.TypeIs (.ref q) "list" := ⟨oq, hoq, hcq⟩
  unfold setItem
  refine wpAny_holding ?_
  refine wpAny_bind ?_
  unfold sequenceKey
  refine wpAny_bind (a.type.here ?_)
  refine (Looks.of_peek (K := KY w.params) (r := .ref sl) W.ky ?e).here ?_
  case e => kernel_rfl
  refine wpAny_bind (ac_callSpecial a W (f_setitem _) PySem.F.slot_list_setitem.bind PySem.F.slot_list_setitem.plain PySem.F.entry_list_setitem (.inl (by decide +kernel)) (nm := "__setitem__") (by decide +kernel) (args_list_setitem _ _ _) ?_)
  show wpAny _ _ (Builtin.List.listSubscript? (.ref sl) >>= _) _ _ s
  refine wpAny_bind ?_
  unfold Builtin.List.listSubscript?
  refine wpAny_bind (wpAny_specialOf hTs slice_no_index ?_)
  simp only [Option.isNone_none, if_true]
  refine wpAny_pure ?_
  show wpAny _ _ (typeOf (.ref sl) >>= _) _ _ s
  refine wpAny_bind (wpAny_typeOf hTs ?_)
  rw [if_neg (by decide)]
  rw [listSliceParts_eq]
  refine wpAny_bind (wpAny_bind (wpAny_field hos hds (x := .none) rfl (wpAny_bind (wpAny_listPart .none ?_))))
  rw [if_neg (by decide)]
  refine wpAny_bind (wpAny_field hos hds (x := .int k t) rfl (wpAny_bind (wpAny_listPart (.int _ _) ?_)))
  refine wpAny_bind (wpAny_field hos hds (x := .none) rfl (wpAny_bind (wpAny_listPart .none (wpAny_pure ?_))))
  rw [if_neg (by simp [Builtin.List.listSameRef, hxq])]
  refine wpAny_bind (m := Builtin.List.listAllItems (.ref q) _) ?_
  unfold Builtin.List.listAllItems
  refine wpAny_bind (wpAny_typeOf hTq ?_)
  rw [if_pos (by decide)]
  unfold Builtin.List.listItems
  refine wpAny_bind (wpAny_seqItems hoq hdq (wpAny_pure ?_))
  refine wpAny_bind (m := Builtin.List.listItems (.ref x)) ?_
  unfold Builtin.List.listItems
  refine wpAny_bind (wpAny_seqItems e rfl (wpAny_pure ?_))
  refine wpAny_bind (wpAny_of_eq (sliceIndices_raw (some k) none none its.toArray.size (by simp)) ?_)
  rw [sb_from k its.toArray.size (by simpa using hk)]
  rw [if_pos (by rfl)]
  refine wpAny_bind (wpAny_rule ?_)
  rw [if_neg (by simp [Builtin.List.listTooLong]; omega)]
  show wpAny _ _ (updateSeq x (fun xs => xs.extract 0 k ++ (#[] : Array Value) ++ xs.extract (max (k : Int) (its.toArray.size : Int)).toNat xs.size) >>= _) _ _ s
  have hmax : (max (k : Int) (its.toArray.size : Int)).toNat = its.length := by simp; omega
  have hf : its.toArray.extract 0 k ++ (#[] : Array Value) ++ its.toArray.extract (max (k : Int) (its.toArray.size : Int)).toNat its.toArray.size = (its.take k).toArray := by
    rw [hmax]
    apply Array.ext'
    simp
  refine wpAny_bind (wpAny_updateSeq e rfl ?_ (by simpa using hsz) (by show Array.size (its.toArray.extract 0 k ++ (#[] : Array Value) ++ its.toArray.extract (max (k : Int) (its.toArray.size : Int)).toNat its.toArray.size) ≤ _; rw [hf]; simp; omega))
  refine wpAny_bind (wpAny_letGo (wpAny_pure ⟨_, rfl, wpAny_pure (h _ (Heap.SameBut.update ..) (a.put _ hf))⟩))

theorem ac_append {v : Value} {Q : Value → Shared → Prop} (a : Ac x d its s.heap) (W : Wd w s.heap) (hsz : its.length ≤ sizeLine)
    (h : ∀ h', Heap.SameBut x s.heap h' → Ac x d (its ++ [v]) h' → Q .none { s with heap := h' }) : wpAny (MM w) A (call (.builtin "list.append") [.ref x, v]) Q E s := by
  obtain ⟨n, od, hs', tk, v', e, e', ed, _⟩ := a.own
  refine ac_call a W PySem.F.slot_list_append.plain PySem.F.entry_list_append (.inr (by decide +kernel)) (nm := "append") (by decide +kernel) (args_list_append _ _) ?_
  show wpAny _ _ (updateSeq x (·.push v) >>= fun _ => ret .none) _ _ s
  refine wpAny_bind (wpAny_updateSeq e rfl (wpAny_pure ⟨_, rfl, h _ (Heap.SameBut.update ..) (a.put _ (by simp))⟩) (by simpa using hsz) (by simp; omega))
end
end Mine
namespace Mine
set_option maxRecDepth 100000
open PySem PySem.W PyProof.Rows

/-- every object but x is kept -/
noncomputable def KeepB (x : Addr) (h h' : Heap) : Prop := ∀ b o, b ≠ x → h.get? b = some o → (Tb o → b ≠ 103) → h'.get? b = some o
theorem KeepB.trans {x : Addr} {h h' h'' : Heap} (a : KeepB x h h') (b : KeepB x h' h'') : KeepB x h h'' := fun c o n e t => b c o n (a c o n e t) t
theorem KeepB.of_gw {x : Addr} {s s' : Shared} (G : Gw s s') : KeepB x s.heap s'.heap := fun b o _ e t => G.keep b o e t
theorem KeepB.of_same {x : Addr} {h h' : Heap} (hs : Heap.SameBut x h h') : KeepB x h h' := fun b o n e _ => hs.extBut b o n e

section
variable {w : World} {A : Around} {E : Value → Shared → Prop} {s : Shared} {g : Shared} {o : Bool} {sc : Scope} {env : Env} {l : List (Str × Value)} {P : Heap → Prop} {x d : Addr}
theorem Fm.stepB (F : Fm w g o sc env s l P) {s' : Shared} {P' : Heap → Prop} (G : Gw g s') (K : KeepB x s.heap s'.heap) (hoff : offE env x) (hst : Stb env P') (hP : P' s'.heap) : Fm w g o sc env s' l P' := by
  obtain ⟨m, cm, h1, h2, h3⟩ := F.fr
  have n1 : s'.heap.Ns env.locals m := let ⟨ob, es, ep, e, d, r⟩ := h1; ⟨ob, es, ep, K _ _ (Ne.symm hoff.1) e (fun t => absurd t (notTb_of_dict d)), d, r⟩
  have c1 : ∀ y c, env.cells.lookup y = some c → s'.heap.IsCell c (cm y) := fun y c e => let ⟨ob, e', d⟩ := h2 y c e
    ⟨ob, K _ _ (Ne.symm (hoff.2 y c (mem_of_lookup e))) e' (fun t => by obtain ⟨_, vs, e⟩ := t; rw [d] at e; cases e), d⟩
  exact ⟨F.hsc, F.gb, F.ce, F.nd, F.wd, G, F.fresh, ⟨m, cm, n1, c1, h3⟩, F.apart, F.ne, fun y c hy => (c1 y c (lookup_of_mem F.nd hy)).lt, F.own, hst, hP⟩
theorem Fm.base {g0 : Shared} (F : Fm w g o sc env s l P) (W : Mine.Wd w g0.heap) (G : Gw g0 g) : Fm w g0 o sc env s l P :=
  ⟨F.hsc, F.gb, F.ce, F.nd, W, G.trans F.gw, Nat.le_trans G.size F.fresh, F.fr, F.apart, F.ne, F.lt, F.own, F.stb, F.pins⟩
theorem stb_keepB {h : Heap} (hl : ∀ b o, h.get? b = some o → offE env b) : Stb env (KeepB x h) := fun _ _ k y b o n e t => k b o (hl b o e) (y b o n e t) t
theorem Fm.oldOff (F : Fm w g true sc env s l P) {b : Addr} {ob : Obj} (e : g.heap.get? b = some ob) : offE env b :=
  ⟨fun h => absurd (Heap.lt_size e) (Nat.not_lt.mpr (h ▸ F.fresh)), fun y c hy h => absurd (Heap.lt_size e) (Nat.not_lt.mpr (h ▸ Nat.le_trans F.fresh (Nat.le_of_lt (F.own rfl y c hy))))⟩
theorem Gw.ofB {s0 s : Shared} (G : Gw s0 s) (hx : s0.heap.objs.size ≤ x) {h' : Heap} (hs : Heap.SameBut x s.heap h') (tk : Nat) : Gw s0 { s with heap := h', toks := tk } := G.but hx hs tk

theorem Ac.kp {its : List Value} {h h' : Heap} {y : Addr} (a : Ac y d its h) (K : KeepB x h h') (hy : y ≠ x) (hd : d ≠ x) : Ac y d its h' := by
  obtain ⟨n, od, hs, tk, v, e, e', ed, ne, nc⟩ := a.own
  exact ⟨⟨n, K _ _ hy e (fun t => absurd t (notTb_of_cls fun c => nomatch c))⟩, ⟨od, hs, tk, v, K _ _ hd e' (fun t => absurd t (notTb_of_dict ed)), ed⟩, ne, nc⟩
theorem stb_ac {its : List Value} (hx : offE env x) (hd : offE env d) : Stb env (Ac x d its) := fun h h' k a => by
  obtain ⟨n, od, hs, tk, v, e, e', ed, ne, nc⟩ := a.own
  exact ⟨⟨n, k _ _ hx e (fun t => absurd t (notTb_of_cls fun c => nomatch c))⟩, ⟨od, hs, tk, v, k _ _ hd e' (fun t => absurd t (notTb_of_dict ed)), ed⟩, ne, nc⟩
theorem Fm.oldAc {its : List Value} (F : Fm w g true sc env s l P) (a : Ac x d its g.heap) : offE env x ∧ offE env d :=
  let ⟨_, _, _, _, _, e, e', _⟩ := a.own; ⟨F.oldOff e, F.oldOff e'⟩
theorem Ac.sq {its : List Value} {h : Heap} (a : Ac x d its h) : ∃ ob, h.get? x = some ob ∧ Sq ob ∧ ob.cls = .ref 133 :=
  let ⟨_, _, _, _, _, e, _⟩ := a.own; ⟨_, e, ⟨notTb_of_cls (by intro c; cases c), (by intro _ _ e; cases e), (by intro _ e; cases e)⟩, rfl⟩
theorem Ac.lt {its : List Value} {h : Heap} (a : Ac x d its h) : x < h.objs.size := let ⟨_, e, _⟩ := a.sq; Heap.lt_size e
theorem Ac.gw {its : List Value} {s s' : Shared} (a : Ac x d its s.heap) (G : Gw s s') : Ac x d its s'.heap := by
  obtain ⟨n, od, hs, tk, v, e, e', ed, ne, nc⟩ := a.own
  exact ⟨⟨n, G.keep _ _ e (fun t => absurd t (notTb_of_cls fun c => nomatch c))⟩, ⟨od, hs, tk, v, G.keep _ _ e' (fun t => absurd t (notTb_of_dict ed)), ed⟩, ne, nc⟩
theorem e_expr {e : Expr} {pos : Pos} {Q : Flow → Shared → Prop} (F : Fm w g o sc env s l P) (h : wpAny (MM w) A (eval e env) (fun _ => Q .next) E s) (hk : (sc.kind == .module) = false) (hs : swapsWith e none pos.line env = pure false) : wpAny (MM w) A (exec (.Expr e pos) env) Q E s :=
  wpAny_Expr_any h (by unfold interactive; rw [F.hsc, hk]; rfl) hs
noncomputable abbrev KTup (w : World) (env : Env) (Q : Value → Shared → Prop) : List Value → Shared → Prop := fun vs s₁ => vs.length ≤ sizeLine ∧ ∃ g o sc l P, Fm w g o sc env s₁ l P ∧ ∀ T s', T = s₁.heap.objs.size → offE env T → Fm w g o sc env s' l (fun h => h.IsTuple T vs.toArray ∧ P h) → Gw s₁ s' → Q (.ref T) s'
theorem stb_tup {T : Addr} {vs : Array Value} (h : offE env T) : Stb env (fun h => h.IsTuple T vs) := fun _ _ k ⟨o, e, c, r⟩ => ⟨o, k T o h e (fun t => absurd t (notTb_of_cls (by rw [c]; exact fun e => nomatch e))), c, r⟩
theorem r_tuple {elts : List Expr} {k : Nat} {pos : Pos} {Q : Value → Shared → Prop}
    (h : wpAny (MM w) A (spliced (backTo pos (starEach elts env))) (KTup w env Q) E s) : wpAny (MM w) A (eval (.Tuple elts k pos) env) Q E s :=
  wpAny_Tuple (wpAny_mono h (fun vs s₁ ⟨h1, g, o, sc, l, P, F, h2⟩ => ⟨h1, h2 _ _ rfl (F.off (Nat.le_refl _))
    ((F.push _ s₁.toks).pin (stb_tup (F.off (Nat.le_refl _))) ⟨_, Heap.get?_push_size _ rfl, rfl, _, rfl⟩) ((Gw.refl s₁).push _ s₁.toks)⟩) fun _ _ e => e)
theorem r_subA {value slice : Expr} {pos : Pos} {Q : Value → Shared → Prop} (h : wpAny (MM w) A (eval value env) (fun ov s₁ => wpAny (MM w) A (eval slice env) (fun iv s₂ => (∃ x d its, ov = .ref x ∧ Ac x d its s₂.heap) ∧ Mine.Wd w s₂.heap ∧ wpAny (MM w) A (getItem ov iv) Q E s₂) E s₁) E s) :
    wpAny (MM w) A (eval (.Subscript value slice pos) env) Q E s := by
  refine Subscript_ (wpAny_mono h (fun o s₁ h₁ => wpAny_mono h₁ (fun i s₂ h₂ => ?_) fun _ _ e => e) fun _ _ e => e)
  obtain ⟨⟨x, d, its, rfl, a⟩, W, h₂⟩ := h₂
  unfold subscriptTail
  refine wpAny_bind ?_
  rw [getitemInPython_of_ne (o := .ref x) (by intro e; cases e)]
  refine wpAny_bind (ac_special a W (f_getitem _) ?_)
  obtain ⟨ops, hs⟩ := sub_false slice (.ref x) i
  have fin : wpAny (MM w) A (subscripted slice false (.ref x) i) (fun r s₃ => wpAny (MM w) A (letTemporaryGo value (.ref x) r >>= fun _ => pure r) Q E s₃) E s₂ := by
    rw [hs]
    exact wpAny_operating (wpAny_mono h₂ (fun r s₃ h₃ => wpAny_bind (wpAny_letTemporaryGo (wpAny_pure h₃))) fun _ _ x => x)
  first
    | exact wpAny_pure (wpAny_bind fin)
    | exact wpAny_bind (wpAny_pure (wpAny_bind fin))
    | exact wpAny_bind fin
/-- a call with the object ahead of its arguments -/
noncomputable abbrev KF1 (w : World) (A : Around) (a : Addr) (first : List Value) (E : Value → Shared → Prop) (Q : Value → Shared → Prop) : List Value → Shared → Prop := fun vs s₁ => Wd w s₁.heap ∧ wpAny (MM w) A (call (.ref a) (first ++ vs)) Q E s₁
theorem cw_fn1 {pos : Pos} {a : Addr} {fd : FuncData} {first : List Value} {e : Expr} {rest : List Expr} {Q : Value → Shared → Prop} (ho : fnOk w.params a fd)
    (h : wpAny (MM w) A (spliced (backTo pos (starEach (e :: rest) env))) (KF1 w A a first E Q) E s)
    (he : starEach (e :: rest) env = (false, eval e env) :: starEach rest env) :
    wpAny (MM w) A (callWith pos (.ref a) first (backTo pos (starEach (e :: rest) env)) []) Q E s := by
  rw [he] at h ⊢
  exact Calls.callWith_function (o := ⟨.type "function", none, .func fd, #[]⟩) (fd := fd) (Calls.evalArgs_plain (wpAny_mono h (fun vs s₁ h₁ => ⟨⟨h₁.1.k a _ ho.1 ho.2, rfl⟩, h₁.2⟩) fun _ _ e => e))
end
noncomputable def fd79 : FuncData := fdX (mt 1) "push" "_Accumulator.push" [] .none (.str "cpy313.email.header" 358) (.ref 78) .none
noncomputable def fd87 : FuncData := fdX (mt 2) "pop_from" "_Accumulator.pop_from" [] (.ref 80) (.str "cpy313.email.header" 358) (.ref 86) .none
noncomputable def fd108 : FuncData := fdX (mt 5) "__str__" "_Accumulator.__str__" [] .none (.str "cpy313.email.header" 358) (.ref 107) .none
theorem fn_push (P : Params) : fnOk P 79 fd79 := ⟨by decide, by kernel_rfl⟩
theorem fn_pop (P : Params) : fnOk P 87 fd87 := ⟨by decide, by kernel_rfl⟩
theorem fn_str (P : Params) : fnOk P 108 fd108 := ⟨by decide, by kernel_rfl⟩
section
variable {w : World} {A : Around} {E : Value → Shared → Prop} {s s0 : Shared} {x d : Addr} {its : List Value}
theorem push_spec {v1 v2 : Value} {Q : Value → Shared → Prop} (W : Wd w s0.heap) (G : Gw s0 s) (R : Rm A 2) (hx : s0.heap.objs.size ≤ x) (a : Ac x d its s.heap) (hsz : its.length ≤ sizeLine)
    (h : ∀ T s', Gw s0 s' → KeepB x s.heap s'.heap → s.heap.objs.size ≤ T → s'.heap.IsTuple T #[v1, v2] → Ac x d (its ++ [.ref T]) s'.heap → Q .none s') : wpAny (MM w) A (call (.ref 79) [.ref x, v1, v2]) Q E s := by
  refine callF (body := fB (mt 1)) (binds := [("self", .ref x), ("fws", v1), ("string", v2)]) ["self", "fws", "string"] (Wd.gw G W) R.lim (fn_push _) (by kernel_rfl) (by kernel_rfl) (by kernel_rfl) (by kernel_rfl) (by kernel_rfl) rfl (by decide +kernel) (by decide +kernel) (by kernel_rfl) ⟨rfl, rfl⟩ ?_
  intro s₁ env henv F
  conv in fB _ => whnf
  have hst : Stb env (KeepB x s.heap) := stb_keepB fun b ob e => F.oldOff e
  have F1 := (F.base W G).weak hst (fun _ => .of_gw F.gw)
  have a1 := a.gw F.gw
  have hls : s.heap.objs.size ≤ s₁.heap.objs.size := F.gw.size
  have hoff := F.oldAc a
  clear F
  refine e_cons (e_expr F1 ?_ (by kernel_rfl) (by rfl))
  refine r_meth (pl := ?pl) ?_ ?he
  case he => exact rfl
  refine lkp_name F1 (by rfl) ?_ (by kernel_rfl)
  refine ac_method a1 (Wd.gw F1.gw W) (f_append _) (T := "method_descriptor") (by kernel_rfl) (by decide) (by decide +kernel) ?_
  refine cw_builtin ?_ (by kernel_rfl) (by kernel_rfl)
  refine i_cons ?_ (by kernel_rfl)
  refine r_tuple ?_
  refine i_cons (lkp_name F1 (by rfl) ?_ (by kernel_rfl)) (by kernel_rfl)
  refine i_cons (lkp_name F1 (by rfl) ?_ (by kernel_rfl)) (by kernel_rfl)
  refine i_nil ⟨by simp [sizeLine], _, _, _, _, _, F1, fun T s₂ hT hoffT F2 G2 => i_nil ?_⟩
  have a2 := a1.gw G2
  refine ac_append a2 (Wd.gw F2.gw W) hsz fun h₃ hs₃ a3 => ?_
  have hTx : T ≠ x := fun e => absurd a1.lt (by rw [← e, hT]; exact Nat.lt_irrefl _)
  have F3 := F2.stepB (s' := { s₂ with heap := h₃ }) (P' := KeepB x s.heap) (F2.gw.ofB hx hs₃ _) (.of_same hs₃) hoff.1 hst
    (F2.pins.2.trans (.of_same hs₃))
  refine e_nil (h T _ F3.gw F3.pins (by rw [hT]; exact hls) ?_ a3)
  obtain ⟨ot, e, c, r⟩ := F2.pins.1
  exact ⟨ot, hs₃.extBut _ _ hTx e, c, r⟩
theorem slice_ac {g : Shared} {o : Bool} {sc : Scope} {env : Env} {l : List (Str × Value)} {P : Heap → Prop} {k : Nat} {t : Tok} {Q : Value → Shared → Prop} (F : Fm w g o sc env s l P) (a : Ac x d its s.heap) (hsz : its.length ≤ sizeLine)
    (h : ∀ L s', s.heap.objs.size ≤ L → offE env L → Gw s s' → Fm w g o sc env s' l (fun h => Ls L (its.drop k) h ∧ P h) → Q (.ref L) s') :
    (∃ x' d' its', Value.ref x = .ref x' ∧ Ac x' d' its' (s.heap.push { cls := .type "slice", data := .fields #[.int k t, .none, .none] })) ∧ Wd w (s.heap.push { cls := .type "slice", data := .fields #[.int k t, .none, .none] }) ∧
      wpAny (MM w) A (getItem (.ref x) (.ref s.heap.objs.size)) Q E { s with heap := s.heap.push { cls := .type "slice", data := .fields #[.int k t, .none, .none] } } := by
  have F1 := F.push { cls := .type "slice", data := .fields #[.int k t, .none, .none] } s.toks
  have G1 : Gw s { s with heap := s.heap.push { cls := .type "slice", data := .fields #[.int k t, .none, .none] } } := (Gw.refl s).push _ s.toks
  have a1 := a.gw G1
  refine ⟨⟨x, d, its, rfl, a1⟩, F1.Wd, ac_slice a1 F1.Wd (Heap.IsSliceOf.new ..) (.int k t) .none hsz ?_⟩
  rw [show slicePick its.toArray (some (k : Int)) none none = (its.drop k).toArray from slicePick_from' _ _]
  have off := F1.off (Nat.le_refl _)
  exact h _ _ G1.size off (G1.push _ s.toks) ((F1.push _ s.toks).pin (stb_ls (its.drop k) off) (.new (Heap.get?_push_size _ rfl)))
theorem pk_pop (P : Params) (S : Setting) (x : Addr) (k : Int) (t : Tok) : peek (KY P) S (bindArgs fd87 ⟨[.ref x, .int k t], []⟩) = some [((("self" : Str)), Value.ref x), ((("i" : Str)), Value.int k t)] := by kernel_rfl
theorem pop_spec {k : Nat} {t : Tok} {Q : Value → Shared → Prop} (W : Wd w s0.heap) (G : Gw s0 s) (R : Rm A 2) (hx : s0.heap.objs.size ≤ x) (a : Ac x d its s.heap) (hk : k ≤ its.length) (hsz : its.length ≤ sizeLine)
    (h : ∀ L s', Gw s0 s' → KeepB x s.heap s'.heap → s.heap.objs.size ≤ L → L ≠ x → Ls L (its.drop k) s'.heap → Ac x d (its.take k) s'.heap → Q (.ref L) s') : wpAny (MM w) A (call (.ref 87) [.ref x, .int k t]) Q E s := by
  have Ws := Wd.gw G W
  refine callB (body := fB (mt 2)) (binds := [("self", .ref x), ("i", .int k t)]) ["self", "i"] Ws R.lim (fn_pop _) (by kernel_rfl) (by kernel_rfl) (fun M _ _ _ hq => Looks.here (Looks.of_peek (M := M) Ws.ky (pk_pop w.params _ x k t)) hq) (by kernel_rfl) (by kernel_rfl) rfl (by decide +kernel) (by decide +kernel) (by kernel_rfl) ⟨rfl, rfl⟩ ?_
  intro s₁ env henv F
  conv in fB _ => whnf
  have hst : Stb env (KeepB x s.heap) := stb_keepB fun b ob e => F.oldOff e
  have F1 := (F.base W G).weak hst (fun _ => .of_gw F.gw)
  have a1 := a.gw F.gw
  have hls : s.heap.objs.size ≤ s₁.heap.objs.size := F.gw.size
  have hoff := F.oldAc a
  clear F
  refine e_cons (e_assign ?_ (by kernel_rfl))
  refine r_subA (lkp_name F1 (by rfl) ?_ (by kernel_rfl))
  refine wpAny_Slice (p_some (lkp_name F1 (by rfl) ?_ (by kernel_rfl)))
  refine p_none (evalPart_none_step ?_)
  refine slice_ac F1 a1 hsz fun L s₂ hL hoffL G2 F2 => ?_
  have a2 := a1.gw G2
  have hLx : L ≠ x := fun e => absurd a1.lt (by rw [← e]; exact Nat.not_lt.mpr hL)
  refine storeV (F2.pin (stb_ac hoff.1 hoff.2) a2) (fun s₃ F3 => ?_) (by kernel_rfl)
  refine e_cons (e_set ?_ (by kernel_rfl))
  refine r_list (i_nil ⟨by simp [sizeLine], _, _, _, _, _, F3, fun q s₄ hq hoffq F4 => ?_⟩)
  refine lkp_name F4 (by rfl) ?_ (by kernel_rfl)
  refine wpAny_Slice (p_some (lkp_name F4 (by rfl) ?_ (by kernel_rfl)))
  refine p_none (evalPart_none_step ?_)
  have F5 := F4.push { cls := .type "slice", data := .fields #[.int k t, .none, .none] } s₄.toks
  refine ac_cut F5.pins.2.1 F5.Wd (Heap.IsSliceOf.new ..) F5.pins.1 hk hsz fun h₆ hs₆ a6 => ?_
  obtain ⟨hq5, ha5, hL5, hk5⟩ := F5.pins
  have F6 := F5.stepB (s' := { s₄ with heap := h₆ }) (P' := fun h => Ac x d (its.take k) h ∧ Ls L (its.drop k) h ∧ KeepB x s.heap h) (F5.gw.ofB hx hs₆ _) (.of_same hs₆) hoff.1 (((hst.and (stb_ls _ hoffL)).and (stb_ac hoff.1 hoff.2)))
    ⟨a6, hL5.at fun ob e _ => hs₆.extBut _ _ hLx e, hk5.trans (.of_same hs₆)⟩
  refine e_cons (e_ret (lkp_name F6 (by rfl) ?_ (by kernel_rfl)))
  exact h L _ F6.gw F6.pins.2.2 (Nat.le_trans hls hL) hLx F6.pins.2.1 F6.pins.1
end
end Mine
namespace Mine
set_option maxRecDepth 100000
open PySem PySem.W PyProof.Rows

theorem kp_class (P : Params) : keepIn (KY P) (.ref 133) = true := by kernel_rfl
theorem weight_cls : (Code.builtin "type.__call__" ⟨[.ref 133], []⟩).weight ≤ 1 := by first | exact Nat.le_of_eq (by kernel_rfl) | exact Nat.le_of_ble_eq_true (by kernel_rfl)
section
variable {w : World} {A : Around} {E : Value → Shared → Prop} {s : Shared} {g : Shared} {o : Bool} {sc : Scope} {env : Env} {l : List (Str × Value)} {P : Heap → Prop}
theorem r_new {p pos : Pos} {Q : Value → Shared → Prop} (F : Fm w g o sc env s l P) (R : Rm A 2) (hk : (sc.kind == .function && sc.names.lookup ("_Accumulator" : Str) == some .globalImplicit && !(("_Accumulator" : Str) == ("__debug__" : Str))) = true)
    (h : ∀ x d s', s.heap.objs.size ≤ x → s.heap.objs.size ≤ d → Gw s s' → Ac x d [] s'.heap → Q (.ref x) s') : wpAny (MM w) A (eval (.Call (.Name "_Accumulator" p) [] [] pos) env) Q E s := by
  show wpAny (MM w) A (eval (.Name "_Accumulator" p) env >>= fun f => callWith pos f [] (backTo pos (starEach [] env)) []) Q E s
  refine wpAny_bind (name_glob F (gl_Accumulator _) ?_ hk)
  refine callWith_K0 F.Wd.ky (kp_class _) (wpAny_call (acc_call F.Wd ?_))
  have hd : s.heap.objs.size ≠ s.heap.objs.size + 1 := Nat.ne_of_lt (Nat.lt_succ_self _)
  refine init_code (s0 := s) F.Wd (.of_keep (tk := s.toks) (fun b o e => Heap.get?_push_of_some _ (Heap.get?_push_of_some _ e)) (by rw [Heap.size_push, Heap.size_push]; omega)) (by have := R.depth; have := weight_cls; show A.depth + _ < recursionLimit; unfold recursionLimit; omega) ⟨0, Heap.get?_push_at (by rw [Heap.size_push]) rfl⟩
    (Heap.get?_push_of_some _ (Heap.get?_push_size _ rfl)) (Nat.le_succ _) (Nat.le_refl _) hd (fun s' G a => ?_)
  exact ⟨rfl, h _ _ s' (Nat.le_succ _) (Nat.le_refl _) G a⟩
end
end Mine
namespace Mine
set_option maxRecDepth 100000
open PySem PySem.W PyProof.Rows

/-- the pairs of a pile -/
noncomputable def Prs (its : List Value) (ds : List Nat) (h : Heap) : Prop := ∃ ps : List (Addr × Nat × Tok × Tok), its = ps.map (fun p => .ref p.1) ∧ ps.map (·.2.1) = ds ∧ ∀ p ∈ ps, h.IsTuple p.1 #[.str (tx []) p.2.2.1, .str (tx [p.2.1]) p.2.2.2]

section
variable {w : World} {A : Around} {E : Value → Shared → Prop} {s : Shared} {x d I : Addr} {its : List Value}
theorem ac_next {i : Nat} {v : Value} {Q : Option Value → Shared → Prop} (hit : s.heap.IsListIter I x i) (a : Ac x d its s.heap) (hx : its[i]? = some v)
    (hQ : ∀ h', h'.IsListIter I x (i + 1) → Heap.SameBut I s.heap h' → Q (some v) { s with heap := h' }) : wpAny (MM w) A (pyNext (.ref I)) Q E s := by
  obtain ⟨oi, hoi, hci, hdi⟩ := id hit
  obtain ⟨n, _, _, _, _, e, _⟩ := a.own
  have hf : (its.toArray)[((i : Nat) : Int).toNat]? = some v := by simpa using hx
  unfold pyNext
  refine wpAny_bind (wpAny_attempt (wpAny_callSpecial?_slot (name := Str.ofString "__next__") hit.typeIs slot_listiter_next
    (wpAny_call_entry slot_listiter_next hit.typeIs entry_listiter_next ?_ (args_listiter_next _))))
  show wpAny _ _ (do let l ← field (.ref I) 0; _) _ _ s
  refine wpAny_bind (wpAny_field hoi hdi (x := .ref x) rfl ?_)
  rw [if_neg (by intro c; cases c)]
  refine wpAny_bind (wpAny_field hoi hdi (x := .int i 0) rfl ?_)
  refine wpAny_bind (m := seqItems? (.ref x)) (wpAny_seqItems e rfl ?_)
  simp only [hf]
  refine wpAny_bind (wpAny_setField hoi hdi (by simp) (wpAny_pure ⟨v, rfl, wpAny_pure (hQ _ ⟨_, Heap.get?_update_self _ hoi (Obj.isFreed_of_fields (Obj.data_mapFields hdi _)), (Obj.cls_mapFields ..).trans hci, ?_⟩ (Heap.SameBut.update ..))⟩))
  rw [Obj.data_mapFields hdi]; simp [rawInt]
theorem ac_end {i : Nat} {Q : Option Value → Shared → Prop} (hh : A.handled = none) (hit : s.heap.IsListIter I x i) (a : Ac x d its s.heap) (hx : its[i]? = none)
    (hQ : ∀ h', Heap.ExtBut I s.heap h' → Q none { s with heap := h' }) : wpAny (MM w) A (pyNext (.ref I)) Q E s := by
  obtain ⟨oi, hoi, hci, hdi⟩ := id hit
  obtain ⟨n, _, _, _, _, e, _⟩ := a.own
  have hf : (its.toArray)[((i : Nat) : Int).toNat]? = none := by simpa using hx
  unfold pyNext
  refine wpAny_bind (wpAny_attempt (wpAny_callSpecial?_slot (name := Str.ofString "__next__") hit.typeIs slot_listiter_next
    (wpAny_call_entry slot_listiter_next hit.typeIs entry_listiter_next ?_ (args_listiter_next _))))
  show wpAny _ _ (do let l ← field (.ref I) 0; _) _ _ s
  refine wpAny_bind (wpAny_field hoi hdi (x := .ref x) rfl ?_)
  rw [if_neg (by intro c; cases c)]
  refine wpAny_bind (wpAny_field hoi hdi (x := .int i 0) rfl ?_)
  refine wpAny_bind (m := seqItems? (.ref x)) (wpAny_seqItems e rfl ?_)
  simp only [hf]
  refine wpAny_bind (wpAny_rule (wpAny_bind (wpAny_setField hoi hdi (by simp) ?_)))
  refine wpAny_bind (m := newExc _ _) ?_
  simp only [newExc, newTuple]
  refine wpAny_bind (wpAny_newObj_type ?_ (by size_fits))
  refine wpAny_bind (m := firstArgMember _ _) (wpAny_of_eq (a := Value.none) (by first | rfl | (simp only [firstArgMember]; rfl)) ?_)
  refine wpAny_newObj_type ?_ (by size_fits)
  simp only [raiseNew]
  refine wpAny_bind (wpAny_handled ?_)
  rw [show A.in1.handled = none from hh]
  refine wpAny_bind (wpAny_pure (wpAny_throw ?_))
  refine wpAny_bind (wpAny_isInstance (T := "StopIteration") (b := true) ⟨_, Heap.get?_push_size _ rfl, rfl⟩ isSubtype_stop ?_)
  exact wpAny_pure (hQ _ (((Heap.SameBut.update ..).extBut.push _).push _))

theorem ac_bound {refuse : Sem Value} {Q : Option Value → Shared → Prop} (a : Ac x d its s.heap) (W : Wd w s.heap) (hc : wpAny (MM w) A (call (.builtin "list.__iter__") [.ref x]) (fun v => Q (some v)) E s) :
    wpAny (MM w) A (callSpecialIfBoundUnlessNone? (.ref x) "__iter__" refuse) Q E s := by
  unfold callSpecialIfBoundUnlessNone? bindSpecialIfBound?
  refine wpAny_holding (wpAny_bind (wpAny_bind (ac_special a W (f_iter _) ?_)))
  simp only [slot_list_iter.bind]
  refine wpAny_bind (wpAny_askSetting (wpAny_ite ?_))
  have fin : wpAny (MM w) A (call (.builtin "list.__iter__") [.ref x] >>= fun v => pure (some v)) Q E s := wpAny_bind (wpAny_mono hc (fun v s' h' => wpAny_pure h') fun _ _ h' => h')
  split
  · exact wpAny_bind (wpAny_pure (wpAny_pure fin))
  · exact wpAny_tryCatch (wpAny_bind (wpAny_pure (wpAny_pure fin)))
theorem ac_iter {Q : Value → Shared → Prop} (a : Ac x d its s.heap) (W : Wd w s.heap) (hQ : Q (.ref s.heap.objs.size) { s with heap := s.heap.push { cls := .type "list_iterator", data := .fields #[.ref x, .int 0 0] } }) :
    wpAny (MM w) A (pyIter (.ref x)) Q E s := by
  unfold pyIter
  refine wpAny_bind (ac_special a W (f_iter _) ?_)
  refine wpAny_bind (m := callSpecialIfBoundUnlessNone? (.ref x) "__iter__" _) (ac_bound a W ?_)
  refine ac_call a W slot_list_iter.plain entry_list_iter (.inl (by decide +kernel)) (nm := "__iter__") (by decide +kernel) (args_list_iter _) ?_
  show wpAny _ _ (do ret (← newFields "list_iterator" [.ref x, rawInt 0])) _ _ s
  refine wpAny_bind (wpAny_newObj_type (wpAny_pure ⟨_, rfl, ?_⟩))
  exact wpAny_bind (wpAny_specialOf (T := "list_iterator") ⟨_, Heap.get?_push_size _ rfl, rfl⟩ slot_listiter_next.lookup (wpAny_pure hQ))
theorem walks_ac (hh : A.handled = none) (ps : List (Addr × Nat × Tok × Tok)) (hI : I ≠ x ∧ I ≠ d ∧ ∀ p ∈ ps, p.1 ≠ I) :
    WalksU PySem.Challenge.pw_xl0004_01 w A I (I :: x :: d :: ps.map (·.1)) [I] ps.length (fun j v => ∃ p, ps[j]? = some p ∧ v = #[.str (tx []) p.2.2.1, .str (tx [p.2.1]) p.2.2.2])
      (fun j h => h.IsListIter I x j ∧ Ac x d (ps.map fun p => .ref p.1) h ∧ ∀ p ∈ ps, h.IsTuple p.1 #[.str (tx []) p.2.2.1, .str (tx [p.2.1]) p.2.2.2])
      (fun j T h => (∃ p ∈ ps, T = p.1) ∧ h.IsListIter I x (j + 1) ∧ Ac x d (ps.map fun p => .ref p.1) h ∧ ∀ p ∈ ps, h.IsTuple p.1 #[.str (tx []) p.2.2.1, .str (tx [p.2.1]) p.2.2.2]) where
  sub := fun b hb => by simp at hb; simp [hb]
  frame := fun _ _ _ st hk => ⟨st.1.at fun o e => hk I (by simp) o e, (let ⟨n, od, hs, tk, v, e, e', ed, r⟩ := st.2.1.own; ⟨⟨n, hk x (by simp) _ e⟩, ⟨od, hs, tk, v, hk d (by simp) _ e', ed⟩, r⟩),
    fun p hp => (st.2.2 p hp).at fun o e => hk p.1 (by simp; exact .inr (.inr (.inr ⟨_, _, _, hp⟩))) o e⟩
  item := fun i s Q E hi st hQ => by
    obtain ⟨p, hp⟩ : ∃ p, ps[i]? = some p := ⟨_, List.getElem?_eq_getElem hi⟩
    refine ac_next st.1 st.2.1 (v := .ref p.1) (by rw [List.getElem?_map, hp]; rfl) fun h' hit' hs' => ?_
    have hm := List.mem_of_getElem? hp
    have tup : ∀ p ∈ ps, h'.IsTuple p.1 #[.str (tx []) p.2.2.1, .str (tx [p.2.1]) p.2.2.2] := fun q hq => (st.2.2 q hq).extBut hs'.extBut (hI.2.2 q hq)
    have ac' : Ac x d (ps.map fun p => .ref p.1) h' := let ⟨n, od, hs, tk, v, e, e', ed, r⟩ := st.2.1.own; ⟨⟨n, hs'.extBut _ _ (Ne.symm hI.1) e⟩, ⟨od, hs, tk, v, hs'.extBut _ _ (Ne.symm hI.2.1) e', ed⟩, r⟩
    exact hQ p.1 _ h' s.toks ⟨p, hp, rfl⟩ (tup p hm) ⟨⟨p, hm, rfl⟩, hit', ac', tup⟩ fun b o hb e => hs'.extBut b o (fun h => hb (by simp [h])) e
  go := fun _ _ _ _ _ s Q _ hm hQ => wpAny_letOwnedTupleGo_listiter hm.2.1 (hQ s.heap hm.2 fun _ _ _ e => e)
  apart := fun j T _ hm hmem => by
    obtain ⟨p, hp, rfl⟩ := hm.1
    simp at hmem
    exact hI.2.2 p hp hmem
  done := fun s Q E st hQ => ac_end hh st.1 st.2.1 (by simp) fun h' he' => hQ h' s.toks fun b o hb e => he' b o (fun h => hb (by simp [h])) e
  self := fun _ _ _ _ st hQ => wpAny_pyIter_listiter st.1 hQ
end
end Mine
namespace Mine
set_option maxRecDepth 100000
open PySem PySem.W PyProof.Rows
noncomputable def gExp : Expr := match fB (mt 5) with
  | [.Return (some (.Call _ [g] _ _)) _] => g
  | _ => default
noncomputable def gElt : Expr := match gExp with
  | .GeneratorExp e _ _ _ => e
  | _ => default
section
variable {w : World} {A : Around} {E : Value → Shared → Prop} {s : Shared} {x d I : Addr} {its : List Value}
theorem tab_code {env : Env} {pos : Pos} {qn : Str} {scope : Scope} {Q : Value → Shared → Prop} (hc : env.code = .ref 107) (T : Tab s.heap) (h : ∀ c s', Gw s s' → Q c s') : wpAny (MM w) A (genexprCode env pos qn scope) Q E s := by
  obtain ⟨ps, t1, t2⟩ := T
  cases hn : codeAmong pos ps.toList with
  | some c => exact wpAny_genexprCode_hit hc t1 hn (h c s (.refl s))
  | none =>
    refine wpAny_genexprCodeX hc t1 t2 hn fun c h' tk hx hge hlt hcode _ htab _ => h _ _ ⟨fun b o e t => hx b o (fun hb => ?_) e, Nat.le_trans hge (Nat.le_of_lt hlt), rfl, id, fun _ => ⟨_, hcode, htab⟩⟩
    subst hb
    have e2 := t2.2
    rw [e] at e2; cases e2
    exact t ⟨rfl, _, rfl⟩ rfl
theorem kx_str (P : Params) : codeOk P (.ref 107) "_Accumulator.__str__" = true := by kernel_rfl
theorem gl_builtins (P : Params) : glob P "__builtins__" = some (.ref 4) := by kernel_rfl
theorem hb_f (P : Params) : isFn (KY P) (.ref 108) = true := by kernel_rfl
theorem gen_elt {A' : Around} {E' : Value → Shared → Prop} {cenv : Env} {m₂ : Str → Option Value} {c : Nat} {t u : Tok} (hk : cenv.scope.kind = .function) (h1 : cenv.kindOf "fws" = some .local) (h2 : cenv.kindOf "part" = some .local)
    (h3 : cenv.kindOf "EMPTYSTRING" = some .globalImplicit) (hn : s.heap.Ns cenv.locals m₂) (hf : m₂ "fws" = some (.str (tx []) t)) (hp : m₂ "part" = some (.str (tx [c]) u)) (hg : cenv.globals = mainGlobals) (hm : s.heap.Ns mainGlobals (glob w.params)) :
    wpAny (MM w) A' (eval gElt cenv) (fun y s₃ => (∃ u, y = .str (tx [c]) u) ∧ Keeps s s₃) E' s := by
  conv in gElt => whnf
  refine r_meth (pl := ?pl) ?_ ?he
  case he => exact rfl
  refine Calls.Name_function_global hk h3 (Calls.loadGlobal_global (by rw [hg]; exact hm) (gl_EMPTY _) ?_) (by decide +kernel)
  refine GM.join (cw_builtin (i_cons (wpAny_Tuple ?_) (by kernel_rfl)) (by kernel_rfl) (by kernel_rfl))
  refine i_cons (wpAny_Name (wpAny_loadName_local hk h1 hn hf ?_) (by decide +kernel)) (by kernel_rfl)
  refine i_cons (wpAny_Name (wpAny_loadName_local hk h2 hn hp ?_) (by decide +kernel)) (by kernel_rfl)
  refine i_nil ⟨by simp [sizeLine], i_nil ?_⟩
  refine join_tupleW (ys := [tx [], tx [c]]) ⟨_, Heap.get?_push_size _ rfl, rfl, _, rfl⟩ (.cons _ _ (.cons _ _ .nil)) (by rw [tx_len]; simp) (by simp [tx_len]) fun t' k' => ?_
  refine ⟨⟨t', ?_⟩, _, _, rfl, fun b o e => Heap.get?_push_of_some _ e⟩
  show Value.str (Str.join (tx []) ([[], [c]].map tx)) t' = _
  rw [join_flat]
  rfl
theorem Tab.moved {h h' : Heap} (x : Tab h) (k : ∀ b o, b < 108 → h.get? b = some o → h'.get? b = some o) : Tab h' := by
  obtain ⟨ps, ⟨oo, vs, file, tf, flags, tg, inF, text, tt, op, a, r1, r2, r3, r4, r5, r6, b, r⟩, ⟨o2, vs2, e2, q⟩, t⟩ := x
  exact ⟨ps, ⟨oo, vs, file, tf, flags, tg, inF, text, tt, op, k _ _ (by decide) a, r1, r2, r3, r4, r5, r6, k _ _ (by decide) b, r⟩, ⟨o2, vs2, k _ _ (by decide) e2, q⟩, k _ _ (by decide) t⟩
theorem flat_one' (r : List Nat) : (r.map ([·])).flatten = r := by induction r with | nil => rfl | cons a r ih => simp at ih ⊢; exact ih
theorem passing_all (n : Nat) : passing (fun _ => true) n 0 = List.range n := by simp [passing]
theorem tup_gw {s s' : Shared} {T : Addr} {vs : Array Value} (x : s.heap.IsTuple T vs) (G : Gw s s') : s'.heap.IsTuple T vs := let ⟨o, e, c, r⟩ := x; ⟨o, G.keep _ _ e (fun t => absurd t (notTb_of_cls (by rw [c]; exact fun e => nomatch e))), c, r⟩
theorem texts_eq {P : Nat → Value → Prop} {l : List (Str × Tok)} {ds : List Nat} (hacc : ItemsOf P (strValues l).toArray ds.length) (hP : ∀ j v, P j v → ∃ u, v = .str (tx [ds.getD j 0]) u) : l.map (·.1) = (ds.map ([·])).map tx := by
  have hsz : l.length = ds.length := by simpa [strValues] using hacc.1
  apply List.ext_getElem?
  intro j
  by_cases hj : j < ds.length
  · have hj' : j < l.length := hsz ▸ hj
    obtain ⟨u, hv⟩ := hP j _ (hacc.2 j (.str l[j].1 l[j].2) (by simp [strValues, List.getElem?_eq_getElem hj']))
    injection hv with h1 _
    simp [List.getElem?_eq_getElem hj', hj, h1]
  · rw [List.getElem?_eq_none (by simpa [hsz] using Nat.le_of_not_lt hj), List.getElem?_eq_none (by simpa using Nat.le_of_not_lt hj)]
theorem str_spec {ds : List Nat} {Q : Value → Shared → Prop} (W : Wd w s.heap) (R : Rm A 4) (a : Ac x d its s.heap) (hp : Prs its ds s.heap) (hl : ds.length ≤ 1000) (h : ∀ t s', Gw s s' → Q (.str (tx ds) t) s') :
    wpAny (MM w) A (call (.type "str") [.ref x]) Q E s := by
  obtain ⟨ox, od, I, _⟩ := a.inst
  obtain ⟨ps, rfl, rfl, htup⟩ := hp
  have R2 : Rm A.in1.in1 3 := ⟨R.handled, by have := R.depth; show A.depth + 3 ≤ 900; omega, by have := R.units; show A.units + 1 + 1 + 3 * 3 ≤ 9000; omega⟩
  refine kso_call (K := KY w.params) (C := 133) R2.line W.ky I (f_str _) (hb_f _) ?_
  refine callF (body := fB (mt 5)) (binds := [("self", .ref x)]) ["self"] W R2.lim (fn_str _) (by kernel_rfl) (by kernel_rfl) (by kernel_rfl) (by kernel_rfl) (by kernel_rfl) rfl (by decide +kernel) (by decide +kernel) (by kernel_rfl) ⟨rfl, rfl⟩ ?_
  have R3 := R2.deeper
  intro s₁ env henv F
  conv in fB _ => whnf
  refine e_cons (e_ret (r_meth (pl := ?pl) ?_ ?he))
  case he => exact rfl
  refine name_glob F (gl_EMPTY _) ?_ (by kernel_rfl)
  refine GM.join (cw_builtin (i_cons ?_ (by kernel_rfl)) (by kernel_rfl) (by kernel_rfl))
  have hcd : env.code = .ref 107 := by rw [henv]; rfl
  have hgl := F.gb
  refine wpAny_GeneratorExp_walksQT (cl := []) (R3 env).handled (by kernel_rfl) (closureFor_none (by decide +kernel)) (by decide +kernel) (by kernel_rfl) (by kernel_rfl) (by kernel_rfl) (by decide +kernel) (by kernel_rfl) (R3 env).lim ?_ (by intro _; rfl)
  refine lkp_name F (by rfl) ?_ (by kernel_rfl)
  have a1 := a.gw F.gw
  refine ac_iter a1 F.Wd ?_
  have F2 := F.push { cls := .type "list_iterator", data := .fields #[.ref x, .int 0 0] } s₁.toks
  refine ⟨F2.Wd.nolimit, tab_code hcd F2.Wd.tab fun code s₃ G3 => ?_⟩
  have G2 : Gw s₁ { s₁ with heap := s₁.heap.push { cls := .type "list_iterator", data := .fields #[.ref x, .int 0 0] } } := (Gw.refl s₁).push _ s₁.toks
  have G13 := G2.trans G3
  have W3 := Wd.gw G13 F.Wd
  have a3 := a1.gw G13
  have hit : s₃.heap.IsListIter s₁.heap.objs.size x 0 := ⟨_, G3.keep _ _ (Heap.get?_push_size _ rfl) (fun t => absurd t (notTb_of_cls fun c => nomatch c)), rfl, rfl⟩
  have hIlt : s₁.heap.objs.size < s₃.heap.objs.size := let ⟨_, e, _⟩ := hit; Heap.lt_size e
  have htup1 := fun p hp => tup_gw (htup p hp) F.gw
  have htup3 := fun p hp => tup_gw (htup1 p hp) G13
  have hd1 : d < s₁.heap.objs.size := let ⟨_, _, _, _, _, _, e', _⟩ := a1.own; Heap.lt_size e'
  have ht1 : ∀ p ∈ ps, p.1 < s₁.heap.objs.size := fun p hp => let ⟨_, e, _⟩ := htup1 p hp; Heap.lt_size e
  obtain ⟨ob, b1, b2, b3, b4⟩ := W3.bmain
  rw [hgl.1, hgl.2]
  refine wpAny_builtinsFor W3.g (gl_builtins _) (by decide) b1 b2 b3 b4 ?_
  have h107 : 107 < s₁.heap.objs.size := F.Wd.tab.lt
  refine ⟨s₁.heap.objs.size, _, _, ps.length, _, _, _, fun _ => true, fun i y => ∃ u, y = .str (tx [(ps.map (·.2.1)).getD i 0]) u, rfl,
    fun A' hA => walks_ac (d := d) hA ps ⟨Nat.ne_of_gt a1.lt, Nat.ne_of_gt hd1, fun p hp => Nat.ne_of_lt (ht1 p hp)⟩, ?_, ⟨hit, a3, htup3⟩, ?_, W3.nolimit, ?_, ?_, ?_⟩
  · rintro i vals ⟨p, _, rfl⟩; exact ⟨_, _, rfl⟩
  · intro b hb
    simp only [List.mem_cons, List.mem_map] at hb
    rcases hb with rfl | rfl | rfl | ⟨p, hp, rfl⟩
    · exact hIlt
    · exact Nat.lt_trans a1.lt hIlt
    · exact Nat.lt_trans hd1 hIlt
    · exact Nat.lt_trans (ht1 p hp) hIlt
  · intro hm
    simp at hm
    have : cStatics < s₁.heap.objs.size := let ⟨_, hn, _⟩ := F.Wd.nolimit; hn.lt
    exact absurd this (by rw [hm]; exact Nat.lt_irrefl _)
  · intro href hh
    refine ⟨fun A' E' i va vb s₂ m₂ _ _ _ _ _ _ => wpAny_pure ⟨rfl, _, _, rfl, fun _ _ e => e⟩, fun A' E' i va vb s₂ m₂ hA hPt _ hn hma hmb hk => ?_⟩
    obtain ⟨p, hpi, hv⟩ := hPt
    simp only [Array.mk.injEq, List.cons.injEq, and_true] at hv
    obtain ⟨rfl, rfl⟩ := hv
    have hm : s₂.heap.Ns mainGlobals (glob w.params) := by
      obtain ⟨o, es, ep, e, r⟩ := W3.g
      exact ⟨o, es, ep, hk 3 (List.mem_range.mpr (Nat.lt_trans (Nat.lt_trans (by decide) h107) hIlt)) (by simp; intro e; rw [← e] at h107; exact absurd h107 (by decide)) _ (hh _ _ e), r⟩
    refine wpAny_mono (gen_elt (c := p.2.1) rfl rfl rfl rfl hn hma hmb hgl.1 hm) (fun y s₃ hy => ⟨?_, hy.2⟩) fun _ _ e => e
    obtain ⟨u, rfl⟩ := hy.1
    exact ⟨u, by rw [List.getD_eq_getElem?_getD, List.getElem?_map, hpi]; rfl⟩
  · intro a h₅ tk gs hgb hag hsz5 hk5 Wk hat
    rw [passing_all, List.length_range] at Wk
    refine i_nil ?_
    show wpAny (MM w) _ (call (.builtin "str.join") [.str (tx []) 360, .ref a]) _ _ _
    refine SC.joinGen Wk.in4_2 (fun i s' st => st.1.typeIs) hat ?_ (List.mem_cons_self ..) (fun i v hv => ?_) (fun s' lt hm hacc => ?_) (by simp [sizeLine] at hl ⊢; omega)
    · intro b hb
      show b < h₅.objs.size
      rw [hsz5]
      simp only [List.mem_cons, List.mem_range] at hb
      rcases hb with rfl | rfl | hb
      · exact Nat.lt_succ_self _
      · exact Nat.lt_succ_of_lt hag
      · exact Nat.lt_succ_of_lt (Nat.lt_trans hb hag)
    · obtain ⟨_, _, u, rfl⟩ := hv; exact ⟨_, _, rfl⟩
    · have e : lt.map (·.1) = ((ps.map (·.2.1)).map ([·])).map tx := by
        refine texts_eq (by rw [List.length_map]; exact hacc) ?_
        rintro j v ⟨i, hi, u, rfl⟩
        have : i = j := by
          have hj := (List.getElem?_eq_some_iff.mp hi).1
          rw [List.getElem?_range (by simpa using hj)] at hi
          exact (Option.some.inj hi).symm
        exact ⟨u, by rw [this]⟩
      rw [e]
      refine ⟨join_ok (by rw [flat_one']; simp at hl ⊢; omega), fun t' k => ?_⟩
      show StrBack Q (.str (Builtin.Str.glued _ _) t') _
      rw [StrLaws.glued_eq_join, join_flat, flat_one']
      refine h _ _ (F.gw.trans ?_)
      obtain ⟨oa, _, _, ha, _⟩ := hat.1
      have hs' := hm.heap a oa (by simp; exact ⟨Nat.ne_of_gt hag, Nat.ne_of_gt (Nat.lt_trans hIlt hag)⟩) ha
      have kp : ∀ b o, b < s₁.heap.objs.size → s₃.heap.get? b = some o → s'.heap.get? b = some o := fun b o hb e =>
        hm.heap b o (by simp; exact ⟨Nat.ne_of_lt (Nat.lt_trans hb hIlt), Nat.ne_of_lt hb⟩) (hk5 b o e)
      exact ⟨fun b o e t => kp b o (Heap.lt_size e) (G13.keep b o e t), Nat.le_trans (Nat.le_of_lt (Nat.lt_trans hIlt hag)) (Nat.le_of_lt (Heap.lt_size hs')), hm.os.trans G13.os,
        fun g => (AllBare.push (G13.gens g) hgb).moved hm.gens, fun x => (G13.tab x).moved fun b o hb e => kp b o (Nat.lt_of_lt_of_le hb h107) e⟩
end
end Mine
namespace Mine
set_option maxRecDepth 100000
open PySem PySem.W PyProof.Rows

noncomputable def exB : List Value := [.type "Exception", .type "BaseException", .type "object"]
theorem own_reply {w : World} {h : Heap} (W : Wd w h) : OwnCls "error_reply" 160 exB "Exception.__new__" (glob w.params) h :=
  ⟨gl_error_reply _, [.ref 147, .type "Exception", .type "BaseException", .type "object"], 159, "error_reply", "error_reply", [.ref 147], true, [], [], false, none, none, some (.ref 151), none, some (.str "error_reply" 478), some (.str "error_reply" 486), some (.bool true), _,
    W.k 160 _ (by decide) rfl, .of_isNs (isNs_of_in W.ky (by kernel_rfl)), nsMap_none_of_in W.ky (by kernel_rfl) (by kernel_rfl), tail_of_in W.ky (by kernel_rfl)⟩
theorem own_proto {w : World} {h : Heap} (W : Wd w h) : OwnCls "error_proto" 172 exB "Exception.__new__" (glob w.params) h :=
  ⟨gl_error_proto _, [.ref 147, .type "Exception", .type "BaseException", .type "object"], 171, "error_proto", "error_proto", [.ref 147], true, [], [], false, none, none, some (.ref 163), none, some (.str "error_proto" 494), some (.str "error_proto" 502), some (.bool true), _,
    W.k 172 _ (by decide) rfl, .of_isNs (isNs_of_in W.ky (by kernel_rfl)), nsMap_none_of_in W.ky (by kernel_rfl) (by kernel_rfl), tail_of_in W.ky (by kernel_rfl)⟩

section
variable {w : World} {A : Around} {E : Value → Shared → Prop} {s : Shared} {g : Shared} {o : Bool} {sc : Scope} {env : Env} {l : List (Str × Value)} {P : Heap → Prop}
theorem raise_at {x y : Str} {C : Addr} {v : Value} {np yp cpos pos : Pos} {Q : Flow → Shared → Prop} (F : Fm w g o sc env s l P) (hh : A.handled = none) (O : OwnCls x C exB "Exception.__new__" (glob w.params) s.heap) (hv : lkp l y = some v)
    (hk : (sc.kind == .function && sc.names.lookup x == some .globalImplicit && !(x == ("__debug__" : Str))) = true)
    (hk2 : (sc.kind == .function && (sc.names.lookup y == some .local || sc.names.lookup y == some .cell) && !(y == ("__debug__" : Str))) = true)
    (he : starEach [.Name y yp] env = (false, eval (.Name y yp) env) :: starEach [] env) (hpl : (backTo cpos (starEach [.Name y yp] env)).any (·.1) = false)
    (h : ∀ h' e, Heap.MadeExcOf s.heap h' e (.ref C) [v] → E (.ref e) { s with heap := h' }) : wpAny (MM w) A (exec (.Raise (some (.Call (.Name x np) [.Name y yp] [] cpos)) none pos) env) Q E s := by
  obtain ⟨tl, N, nm, q, bs, hdct, sn, sub, ab, col, dd, k0, k1, k2, k3, k5, mN, hC, hN, hni, T⟩ := O.obj
  refine wpAny_Raise_call_subU (C := C) (nm := nm) (q := q) (N := N) (bs := bs) (bm := tl) (hdct := hdct) (sn := sn) (sub := sub) (ab := ab) (col := col) (dd := dd) (k0 := k0) (k1 := k1) (k2 := k2) (k3 := k3) (k5 := k5)
    PySem.F.excBase_Exception (by decide) PySem.F.excBase_Exception (mN := mN) (T.hasType (by decide)) hh hpl hni (name_glob F O.bound ⟨rfl, ?_⟩ hk)
  have h1 : wpAny (MM w) A (spliced (backTo cpos (starEach [.Name y yp] env))) (fun vs s₂ => vs = [v] ∧ s₂ = s) E s := i_cons (lkp_name F hv (i_nil ⟨rfl, rfl⟩) hk2) he
  rw [he] at h1 ⊢
  refine Calls.evalArgs_plain (wpAny_mono h1 (fun vs s₂ e => ?_) fun _ _ e => e)
  obtain ⟨rfl, rfl⟩ := e
  exact ⟨rfl, Nat.le_trans (show [v].length ≤ 1 from Nat.le_refl _) (by decide), hC, hN, T, h⟩

/-- an exception under way: behind the raise at sr, up to the frames' own objects -/
structure Fly (sr : Shared) (Ls : List Addr) (l : List Env) (e : Addr) (cls : Value) (s' : Shared) : Prop where
  stays : (hideAll sr.heap Ls).StaysIn s'.heap
  new : (hideAll sr.heap Ls).get? e = none
  frames : s'.heap.FunFrames (hideAll sr.heap Ls) l
  traced : ∃ a0, s'.heap.TracedW (hideAll sr.heap Ls) e cls a0
  slots : sr.heap.UpToSlots s'.heap
  os : s'.os = sr.os
  gens : s'.gens = sr.gens

/-- a frame of a def, as the exception's road sees it -/
noncomputable def Frm (h : Heap) (env : Env) : Prop := env.scope.kind ≠ .module ∧ env.frame = some env.locals ∧ ∃ m, h.Ns env.locals m
theorem Frm.gw {s s' : Shared} {env : Env} (x : Frm s.heap env) (G : Gw s s') : Frm s'.heap env := let ⟨a, b, m, c⟩ := x; ⟨a, b, m, Ns.gw G c⟩
theorem funFrames_of {h h' : Heap} {Ls : List Addr} (k : ∀ b o, h.get? b = some o → h'.get? b = some o) : ∀ (l : List Env), (∀ env ∈ l, Frm h env ∧ env.locals ∈ Ls) → h'.FunFrames (hideAll h Ls) l
  | [], _ => trivial
  | env :: l, H => let ⟨⟨a, b, _, c⟩, i⟩ := H env (.head _); .cons a b (c.keeps k) (hideAll_none _ i) (funFrames_of k l fun e he => H e (.tail _ he))

theorem leave_first {e C : Addr} {v : Value} {l : List Env} {Ls : List Addr} {h' : Heap} {Q : Unit → Shared → Prop} (hfr : A.frames = some (env :: l)) (H : ∀ env' ∈ env :: l, Frm s.heap env' ∧ env'.locals ∈ Ls)
    (hm : Heap.MadeExcOf s.heap h' e (.ref C) [v]) (hQ : ∀ h'', Fly s Ls l e (.ref C) { s with heap := h'' } → Q () { s with heap := h'' }) : wpAny (MM w) A (leaving env (.ref e)) Q E { s with heap := h' } := by
  obtain ⟨t, he, ht, _⟩ := hm.there
  have kb : (hideAll s.heap Ls).StaysIn h' := fun b o e => hm.keeps _ _ (of_hideAll _ e)
  have en : (hideAll s.heap Ls).get? e = none := by
    cases q : (hideAll s.heap Ls).get? e with
    | none => rfl
    | some o => have := of_hideAll _ q; rw [hm.new] at this; cases this
  refine wpAny_leaving_first hfr (funFrames_of hm.keeps _ H) (H env (.head _)).1.2.1 he kb en rfl rfl fun h'' hL => ?_
  obtain ⟨k1, ⟨_, _, k2⟩, k3, k4⟩ := hL
  refine hQ h'' ⟨k1, en, k2, ?_, fun b o q nf => ?_, rfl, rfl⟩
  · obtain ⟨oe, vs, T, oT, ts, e1, e2, e3, e4, e5⟩ := k3
    have : 0 < vs.size := Nat.lt_of_le_of_lt (Nat.zero_le _) (Array.getElem?_eq_some_iff.mp e4).1
    exact ⟨vs[0], oe, vs, T, oT, ts, e1, ⟨e2, Array.getElem?_eq_getElem this⟩, e3, e4, e5⟩
  · exact k4 b o (hm.keeps _ _ q) nf

/-- the frame of the try -/
theorem caught_on {e C : Addr} {l : List Env} {Ls : List Addr} {sr s' : Shared} {Q : Unit → Shared → Prop} (hfr : A.frames = some (env :: l)) (hf : env.frame = some env.locals) (Y : Fly sr Ls (env :: l) e (.ref C) s')
    (hQ : ∀ s'', Fly sr Ls (env :: l) e (.ref C) s'' → Q () s'') :
    wpAny (MM w) A (noteFrame (.ref e) env) (fun _ s₂ => wpAny (MM w) A (setFlight (.ref e) none) Q E s₂) E s' := by
  obtain ⟨a0, tr⟩ := Y.traced
  refine wpAny_noteFrame_onW hfr Y.frames hf tr Y.stays Y.new fun h1 ⟨x1, x2, x3, x4⟩ => ?_
  refine wpAny_setFlight_noneW x1 x2 x3 fun h2 y1 y2 y3 y4 => ?_
  refine hQ _ ⟨y1, Y.new, y2, ⟨a0, y3⟩, fun b o q nf => ?_, Y.os, Y.gens⟩
  obtain ⟨sl, z⟩ := Y.slots b o q nf
  obtain ⟨sl2, z2⟩ := x4 b _ z nf
  exact ⟨sl2, y4 b _ z2 nf⟩
theorem caught_again {e C : Addr} {l : List Env} {Ls : List Addr} {sr s' : Shared} {Q : Unit → Shared → Prop} (Y : Fly sr Ls (env :: l) e (.ref C) s')
    (hQ : ∀ s'', Fly sr Ls (env :: l) e (.ref C) s'' → Q () s'') : wpAny (MM w) A (setFlight (.ref e) none) Q E s' := by
  obtain ⟨a0, tr⟩ := Y.traced
  refine wpAny_setFlight_noneW Y.stays Y.frames tr.at fun h2 y1 y2 y3 y4 => ?_
  refine hQ _ ⟨y1, Y.new, y2, ⟨a0, y3⟩, fun b o q nf => ?_, Y.os, Y.gens⟩
  obtain ⟨sl, z⟩ := Y.slots b o q nf
  exact ⟨sl, y4 b _ z nf⟩
theorem Fly.there {e C : Addr} {l : List Env} {Ls : List Addr} {sr s' : Shared} (Y : Fly sr Ls l e (.ref C) s') : ∃ oe, s'.heap.get? e = some oe ∧ oe.cls = .ref C := by
  obtain ⟨a0, oe, _, _, _, _, h, hc, _⟩ := Y.traced; exact ⟨oe, h, hc.1⟩

theorem match_self {e C : Addr} {x : Str} {Q : Bool → Shared → Prop} (O : OwnCls x C exB "Exception.__new__" (glob w.params) s.heap) (he : ∃ oe, s.heap.get? e = some oe ∧ oe.cls = .ref C) (hQ : Q true s) :
    wpAny (MM w) A (excMatches (.ref e) (.ref C)) Q E s := by
  obtain ⟨tl, N, nm, q, bs, hdct, sn, sub, ab, col, dd, k0, k1, k2, k3, k5, mN, hC, hN, hni, T⟩ := O.obj
  obtain ⟨oe, h1, h2⟩ := he
  obtain ⟨hh, g, d, tk, os⟩ := s
  exact wpAny_excMatches_sub_self hC h1 h2 (T.hasType (by decide)) hQ

theorem match_other {e : Addr} {Q : Bool → Shared → Prop} (W : Wd w s.heap) (he : ∃ oe, s.heap.get? e = some oe ∧ oe.cls = .ref 160) (hQ : Q false s) :
    wpAny (MM w) A (excMatches (.ref e) (.ref 172)) Q E s := by
  have hC := W.k 160 _ (by decide) rfl
  have hD := W.k 172 _ (by decide) rfl
  obtain ⟨oe, h1, hcls⟩ := he
  obtain ⟨hh, g, d, tk, os⟩ := s
  have f := tc_notTuple
  have X := W.ky
  have p1 : peek (KY w.params) ⟨(MM w).prog, w.params⟩ (isInstance (.ref 172) (.type "tuple")) = some false := by kernel_rfl
  have p2 : peek (KY w.params) ⟨(MM w).prog, w.params⟩ (isExcClass (.ref 172)) = some true := by kernel_rfl
  have p3 : peek (KY w.params) ⟨(MM w).prog, w.params⟩ (isSubtype (.ref 160) (.ref 172)) = some false := by kernel_rfl
  unfold excMatches
  have l1 : ∀ {Q : Bool → Shared → Prop}, Q false ⟨hh, g, d, tk, os⟩ → wpAny (MM w) A (isInstance (.ref 172) (.type "tuple")) Q E ⟨hh, g, d, tk, os⟩ := fun q => (Looks.of_peek X p1).here q
  have l2 : ∀ {Q : Bool → Shared → Prop}, Q true ⟨hh, g, d, tk, os⟩ → wpAny (MM w) A (isExcClass (.ref 172)) Q E ⟨hh, g, d, tk, os⟩ := fun q => (Looks.of_peek X p2).here q
  have l3 : ∀ {Q : Bool → Shared → Prop}, Q false ⟨hh, g, d, tk, os⟩ → wpAny (MM w) A (isSubtype (.ref 160) (.ref 172)) Q E ⟨hh, g, d, tk, os⟩ := fun q => (Looks.of_peek X p3).here q
  repeat (first | (with_reducible refine wpAny_loadPart_at h1 ?_; rw [hcls]) | with_reducible refine l1 ?_ | with_reducible refine l2 ?_ | with_reducible refine l3 ?_ | wp_step)
  exact hQ
end
end Mine
namespace Mine
set_option maxRecDepth 100000
open PySem PySem.W PyProof.Rows

section
variable {w : World} {A : Around} {E : Value → Shared → Prop} {s : Shared} {g : Shared} {o : Bool} {sc : Scope} {env : Env} {l : List (Str × Value)} {P : Heap → Prop}

noncomputable abbrev KNext (J : Nat → Shared → Prop) (St : Nat → Heap → Prop) (i : Nat) : Flow → Shared → Prop := fun f s' => f = .next ∧ J (i + 1) s' ∧ St (i + 1) s'.heap
/-- what a loop over a walked thing asks -/
noncomputable abbrev KLoop (w : World) (A : Around) (env : Env) (target : Expr) (body : List Stmt) (Q : Flow → Shared → Prop) : Value → Shared → Prop := fun it s₂ =>
  ∃ (I : Addr) (fp wr : List Addr) (n : Nat) (Pv Md : Nat → Value → Heap → Prop) (St : Nat → Heap → Prop) (J : Nat → Shared → Prop), it = .ref I ∧ KTurns PySem.Challenge.pw_xl0004_01 w A target I fp wr n Pv Md St ∧ St 0 s₂.heap ∧ J 0 s₂ ∧
    (∀ i s v h' tk E', i < n → J i s → St i s.heap → Pv i v h' → St (i + 1) h' → (∀ b o, b ∉ wr → s.heap.get? b = some o → h'.get? b = some o) →
      wpAny (MM w) A (assign target env v) (fun _ s₃ => wpAny (MM w) A (execs body env) (KNext J St i) E' s₃) E' { s with heap := h', toks := tk }) ∧
    (∀ s h' tk, J n s → St n s.heap → (∀ b o, b ∉ wr → s.heap.get? b = some o → h'.get? b = some o) → Q .next { s with heap := h', toks := tk })
theorem e_for {target iter : Expr} {body : List Stmt} {pos : Pos} {Q : Flow → Shared → Prop} (h : wpAny (MM w) A (eval iter env) (fun xv s₁ => wpAny (MM w) A (pyIter xv) (KLoop w A env target body Q) E s₁) E s)
    (hs : ∀ x, foldedSetIterable iter env x = pure x) : wpAny (MM w) A (exec (.For target iter body [] pos) env) Q E s := by
  refine wpAny_For (wpAny_mono h (fun xv s₁ h₁ => wpAny_mono h₁ (fun it s₂ h₂ => ?_) fun _ _ e => e) fun _ _ e => e) hs
  obtain ⟨I, fp, wr, n, Pv, Md, St, J, rfl, W, hst, h0, step, fin⟩ := h₂
  refine codeAny_forLoop_any (fun k s' => ∃ i, i ≤ n ∧ k = n + 1 - i ∧ J i s' ∧ St i s'.heap) ?_ (n + 1) ⟨0, Nat.zero_le _, rfl, h0, hst⟩
  rintro k s' ⟨i, hi, rfl, hJ, hS⟩
  by_cases hlt : i < n
  · refine W.item i _ _ _ hlt hS fun v h₁ tk₁ hMd hk₁ => ?_
    refine W.go i v _ _ _ hMd fun h₂ hP hst₂ hk₂ => ?_
    refine wpAny_mono (step i s' v h₂ tk₁ _ hlt hJ hS hP hst₂ fun b o hb e => hk₂ b o hb (hk₁ b o hb e)) (fun _ s₃ h₃ => wpAny_mono h₃ (fun f s₄ h₄ => ?_) fun _ _ e => e) fun _ _ e => e
    obtain ⟨rfl, hJ', hS'⟩ := h₄
    exact ⟨n + 1 - (i + 1), by omega, i + 1, hlt, rfl, hJ', hS'⟩
  · have hin : i = n := by omega
    subst hin
    exact W.done _ _ _ hS fun h₁ tk₁ hk₁ => wpAny_execs_nil (fin s' h₁ tk₁ hJ hS hk₁)

theorem turns_of {x : Str} {px : Pos} {I : Addr} {fp wr : List Addr} {n : Nat} {Pv : Nat → Value → Prop} {St : Nat → Heap → Prop} (W : Walks PySem.Challenge.pw_xl0004_01 w A I fp wr n Pv St) :
    KTurns PySem.Challenge.pw_xl0004_01 w A (.Name x px) I fp wr n (fun i v _ => Pv i v) (fun i v h => Pv i v ∧ St (i + 1) h) St :=
  .ofWalks W fun _ _ _ _ _ _ hQ => wpAny_of_eq (rfl : letOwnedTupleGo (.Name x px) (.ref I) _ = pure ()) hQ
end
end Mine
namespace Mine
set_option maxRecDepth 100000
open PySem PySem.W PyProof.Rows

/-! ## piles on the heap -/
noncomputable def Pile (ok : Addr → Prop) (x d : Addr) (r : List Nat) (h : Heap) : Prop := ok x ∧ ok d ∧ ∃ ps : List (Addr × Nat × Tok × Tok), Ac x d (ps.map fun p => .ref p.1) h ∧ ps.map (·.2.1) = r ∧ ∀ p ∈ ps, ok p.1 ∧ h.IsTuple p.1 #[.str (tx []) p.2.2.1, .str (tx [p.2.1]) p.2.2.2]
noncomputable def PilesAt (ok : Addr → Prop) (qs : List (Addr × Addr)) (T : List (List Nat)) (h : Heap) : Prop := ∀ (i : Nat) (q : Addr × Addr) (r : List Nat), qs[i]? = some q → T[i]? = some r → Pile ok q.1 q.2 r h
/-- what a pile's own object looks like -/
noncomputable def IsP (h : Heap) (y : Addr) : Prop := ∀ oy, h.get? y = some oy → oy.cls = .ref 133 ∧ ∃ vs n, oy.data = .seq vs n
noncomputable def Kd (o : Obj) : Prop := o.cls = .ref 133 ∨ (∃ es n, o.data = .dict es n) ∨ o.cls = .type "tuple"
theorem Pile.kp {ok : Addr → Prop} {x d y : Addr} {r : List Nat} {h h' : Heap} (p : Pile ok x d r h) (hy : IsP h y) (hxy : x ≠ y) (k : ∀ b o, ok b → b ≠ y → h.get? b = some o → ¬ Tb o → Kd o → h'.get? b = some o) : Pile ok x d r h' := by
  obtain ⟨h1, h2, ps, a, e, tt⟩ := p
  obtain ⟨n, od, hs, tk, v, e1, e2, ed, ne, nc⟩ := a.own
  refine ⟨h1, h2, ps, ⟨⟨n, k _ _ h1 hxy e1 (notTb_of_cls fun c => nomatch c) (.inl rfl)⟩, ⟨od, hs, tk, v, k _ _ h2 (fun e => ?_) e2 (notTb_of_dict ed) (.inr (.inl ⟨_, _, ed⟩)), ed⟩, ne, nc⟩, e, fun p hp => ⟨(tt p hp).1, ?_⟩⟩
  · obtain ⟨_, _, _, e3⟩ := hy _ (e ▸ e2)
    rw [ed] at e3; cases e3
  · obtain ⟨o, e, c, r⟩ := (tt p hp).2
    exact ⟨o, k _ _ (tt p hp).1 (fun e4 => by have := (hy _ (e4 ▸ e)).1; rw [c] at this; cases this) e (notTb_of_cls (by rw [c]; exact fun e => nomatch e)) (.inr (.inr c)), c, r⟩
theorem PilesAt.kp {ok : Addr → Prop} {qs : List (Addr × Addr)} {T : List (List Nat)} {h h' : Heap} (p : PilesAt ok qs T h) (k : ∀ b o, ok b → h.get? b = some o → ¬ Tb o → Kd o → h'.get? b = some o) : PilesAt ok qs T h' := fun i q r hq hr => by
  have p1 := p i q r hq hr
  have big : ∃ y, q.1 ≠ y ∧ h.get? y = none := ⟨h.objs.size, fun e => by
    obtain ⟨_, _, _, a, _⟩ := p1; have := a.lt; rw [e] at this; exact absurd this (Nat.lt_irrefl _), by
    cases e : h.get? h.objs.size with
    | none => rfl
    | some o => exact absurd (Heap.lt_size e) (Nat.lt_irrefl _)⟩
  obtain ⟨y, hy1, hy2⟩ := big
  exact p1.kp (fun oy e => by rw [hy2] at e; cases e) hy1 fun b o hb _ e t d => k b o hb e t d
theorem stb_piles {env : Env} {ok : Addr → Prop} {qs : List (Addr × Addr)} {T : List (List Nat)} (h : ∀ b, ok b → offE env b) : Stb env (PilesAt ok qs T) := fun _ _ k p => p.kp fun b o hb e t _ => k b o (h b hb) e fun t' => absurd t' t
theorem Ac.isP {x d : Addr} {its : List Value} {h : Heap} (a : Ac x d its h) : IsP h x := fun oy e => by
  obtain ⟨n, _, _, _, _, e1, _⟩ := a.own
  rw [e1] at e; cases e; exact ⟨rfl, _, _, rfl⟩
theorem PilesAt.upd {ok : Addr → Prop} {qs : List (Addr × Addr)} {T : List (List Nat)} {h h' : Heap} {i : Nat} {x d : Addr} {r : List Nat} (p : PilesAt ok qs T h) (hnd : (qs.map (·.1)).Nodup) (hq : qs[i]? = some (x, d)) (hy : IsP h x) (K : KeepB x h h')
    (hn : Pile ok x d r h') : PilesAt ok qs (T.set i r) h' := fun j q r' hqj hrj => by
  by_cases hij : i = j
  · subst hij
    rw [hq] at hqj; cases hqj
    rw [List.getElem?_set] at hrj
    simp only [if_true] at hrj
    split at hrj <;> cases hrj
    exact hn
  · rw [List.getElem?_set_ne hij] at hrj
    refine (p j q r' hqj hrj).kp hy (fun e => hij ?_) fun b o _ hb e t _ => K b o hb e fun t' => absurd t' t
    have h1 : (qs.map (·.1))[i]? = some x := by rw [List.getElem?_map, hq]; rfl
    have h2 : (qs.map (·.1))[j]? = some x := by rw [List.getElem?_map, hqj, ← e]; rfl
    obtain ⟨hi, e1⟩ := List.getElem?_eq_some_iff.mp h1
    obtain ⟨hj, e2⟩ := List.getElem?_eq_some_iff.mp h2
    exact (List.getElem_inj hnd).mp (e1.trans e2.symm)
theorem PilesAt.snoc {ok : Addr → Prop} {qs : List (Addr × Addr)} {T : List (List Nat)} {h : Heap} {q : Addr × Addr} {r : List Nat} (p : PilesAt ok qs T h) (hl : qs.length = T.length) (hn : Pile ok q.1 q.2 r h) : PilesAt ok (qs ++ [q]) (T ++ [r]) h := fun j q' r' hq hr => by
  by_cases hj : j < qs.length
  · rw [List.getElem?_append_left hj] at hq
    rw [List.getElem?_append_left (hl ▸ hj)] at hr
    exact p j q' r' hq hr
  · rw [List.getElem?_append_right (Nat.le_of_not_lt hj)] at hq
    rw [List.getElem?_append_right (hl ▸ Nat.le_of_not_lt hj), ← hl] at hr
    rw [List.getElem?_singleton] at hq hr
    split at hq
    · rename_i h0
      rw [if_pos h0] at hr
      cases hq; cases hr; exact hn
    · cases hq

/-! ## row insertion as the piles do it -/
noncomputable def cutK (r : List Nat) (m : Nat) : Nat := (r.filter fun c => decide (c ≤ m)).length
theorem cutK_le (r : List Nat) (m : Nat) : cutK r m ≤ r.length := List.length_filter_le _ _
theorem rins_cut {m : Nat} : ∀ {r : List Nat}, Srt r → rins r m = (r.take (cutK r m) ++ m :: (r.drop (cutK r m)).tail, (r.drop (cutK r m)).head?)
  | [], _ => rfl
  | a :: r, h => by
    obtain ⟨h1, h2⟩ := List.pairwise_cons.mp h
    by_cases ha : m < a
    · have : cutK (a :: r) m = 0 := by
        unfold cutK
        rw [List.filter_eq_nil_iff.mpr]; rfl
        intro b hb
        rcases List.mem_cons.mp hb with rfl | hb
        · simp; omega
        · have := h1 b hb; simp; omega
      rw [rins_pos r ha, this]; rfl
    · have hc : cutK (a :: r) m = cutK r m + 1 := by
        unfold cutK
        rw [List.filter_cons_of_pos (by simp; omega)]; rfl
      rw [rins_neg r ha, rins_cut h2, hc]; rfl
noncomputable def insO : List (List Nat) → Option Nat → List (List Nat)
  | T, none => T
  | T, some m => ins T m
theorem insO_nil (m : Nat) : insO [] (some m) = [[m]] := rfl
theorem insO_cons {r : List Nat} {T : List (List Nat)} {m : Nat} (h : Srt r) : insO (r :: T) (some m) = (r.take (cutK r m) ++ m :: (r.drop (cutK r m)).tail) :: insO T ((r.drop (cutK r m)).head?) := by
  show ins (r :: T) m = _
  unfold ins
  rw [rins_cut h]
  cases (r.drop (cutK r m)).head? <;> rfl
end Mine
namespace Mine
set_option maxRecDepth 100000
open PySem PySem.W PyProof.Rows

theorem nel {a b : Nat} (h : a < b) : (a : Addr) ≠ b := Nat.ne_of_lt h
theorem ngt {a b : Nat} (h : b < a) : (a : Addr) ≠ b := Nat.ne_of_gt h
theorem n01 {I : Nat} : (I : Addr) ≠ I + 1 := nel (by omega)
theorem n02 {I : Nat} : (I : Addr) ≠ I + 2 := nel (by omega)
theorem n12 {I : Nat} : (I + 1 : Addr) ≠ I + 2 := nel (by omega)
theorem n10 {I : Nat} : (I + 1 : Addr) ≠ I := ngt (by omega)
theorem n20 {I : Nat} : (I + 2 : Addr) ≠ I := ngt (by omega)
theorem n21 {I : Nat} : (I + 2 : Addr) ≠ I + 1 := ngt (by omega)
theorem lt012 {b I : Nat} (h : b < I) : (b : Addr) ≠ I ∧ (b : Addr) ≠ I + 1 ∧ (b : Addr) ≠ I + 2 := ⟨nel h, nel (by omega), nel (by omega)⟩
section
variable {w : World} {A : Around} {E : Value → Shared → Prop} {s : Shared} {g : Shared} {o : Bool} {sc : Scope} {env : Env} {l : List (Str × Value)} {P : Heap → Prop}

/-- a list of pairs -/
noncomputable def PrL (a : Addr) (ps : List (Addr × Nat × Tok × Tok)) (h : Heap) : Prop := Ls a (ps.map fun p => .ref p.1) h ∧ ∀ p ∈ ps, h.IsTuple p.1 #[.str (tx []) p.2.2.1, .str (tx [p.2.1]) p.2.2.2]
theorem PrL.kp {a : Addr} {ps : List (Addr × Nat × Tok × Tok)} {h h' : Heap} (x : PrL a ps h) (k : ∀ b o, h.get? b = some o → b = a ∨ (∃ p ∈ ps, b = p.1) → h'.get? b = some o) : PrL a ps h' :=
  ⟨x.1.at fun o e _ => k _ _ e (.inl rfl), fun p hp => let ⟨o, e, c, r⟩ := x.2 p hp; ⟨o, k _ _ e (.inr ⟨p, hp, rfl⟩), c, r⟩⟩
theorem PrL.lt {a : Addr} {ps : List (Addr × Nat × Tok × Tok)} {h : Heap} (x : PrL a ps h) : a < h.objs.size ∧ ∀ p ∈ ps, p.1 < h.objs.size := ⟨x.1.lt, fun p hp => let ⟨_, e, _⟩ := x.2 p hp; Heap.lt_size e⟩
noncomputable abbrev KPairs (w : World) (env : Env) (Q : Value → Shared → Prop) : Value → Shared → Prop := fun xv s₁ => ∃ a ps g o sc l P, xv = .ref a ∧ Fm w g o sc env s₁ l P ∧ PrL a ps s₁.heap ∧ ps.length ≤ sizeLine ∧
  ∀ D s', s₁.heap.objs.size ≤ D → offE env D → Fm w g o sc env s' l (fun h => Strs D (ps.map fun p => [p.2.1]) h ∧ P h) → Q (.ref D) s'
theorem comp_pairs {xa xb : Str} {px pa pb pt pos : Pos} {kt : Nat} {iter : Expr} {scope : Scope} {Q : Value → Shared → Prop} (hh : A.handled = none) (h : wpAny (MM w) A (eval iter env) (KPairs w env Q) E s)
    (hok : (scope.names.all (fun y => y.2 != .cell && y.2 != .free) && decide (scope.names.map (·.1)).Nodup && scope.kind == .function && scope.names.lookup xa == some .local && scope.names.lookup xb == some .local && xa != xb && !(xb == ("__debug__" : Str))) = true)
    (hs : ∀ x, foldedSetIterable iter env x = pure x) :
    wpAny (MM w) A (eval (.ListComp (.Name xb px) [⟨.Tuple [.Name xa pa, .Name xb pb] kt pt, iter, [], 0⟩] scope pos) env) Q E s := by
  simp only [Bool.and_eq_true, List.all_eq_true, bne_iff_ne, ne_eq, beq_iff_eq, decide_eq_true_eq, Bool.not_eq_true'] at hok
  obtain ⟨⟨⟨⟨⟨⟨hok, hnd⟩, hkind⟩, hxa⟩, hxb⟩, hab⟩, hdb⟩ := hok
  have hcell : ∀ y ∈ scope.names, y.2 ≠ .cell := fun y hy => (hok y hy).1
  have hnames : ∀ y ∈ scope.names, y.2 = .local → scope.names.lookup y.1 = some .local := fun y hy e => by
    have : (y.1, NameKind.local) ∈ scope.names := by rw [← e]; exact hy
    exact lookup_of_mem hnd this
  rw [eval_ListComp]
  refine wpAny_comprehension_free (use := none) rfl hs (closureFor_none fun y hy => (hok y hy).2) hkind hnames (wpAny_mono h (fun xv s₁ h₁ => ?_) fun _ _ e => e)
  obtain ⟨a, ps, g, o, sc, l, P, rfl, Fr, hp, hsz, fin⟩ := h₁
  refine wpAny_pyIter_list hp.1.isList ?_
  refine wpAny_newObj_type (wpAny_newFunctionEnv hcell (by intro y hy; simp at hy) (fun h₁ hns₁ hsb₁ => ?_) hkind)
  dsimp only at hns₁ hsb₁ ⊢
  obtain ⟨hpa, hpp⟩ := hp.lt
  have lt1 : ∀ b, b = a ∨ (∃ p ∈ ps, b = p.1) → b < s₁.heap.objs.size := fun b hb => by
    rcases hb with rfl | ⟨p, hp, rfl⟩
    · exact hpa
    · exact hpp p hp
  have hD : (s₁.heap.push { cls := .type "list_iterator", data := .fields #[.ref a, .int 0 0] }).objs.size = s₁.heap.objs.size + 1 := by rw [Heap.size_push]
  have hC : ((s₁.heap.push { cls := .type "list_iterator", data := .fields #[.ref a, .int 0 0] }).push { cls := .type "list", dict := none, data := .seq #[] }).objs.size = s₁.heap.objs.size + 2 := by rw [Heap.size_push, hD]
  rw [hC] at hns₁ hsb₁ ⊢
  rw [hD]
  have old : ∀ b ob, s₁.heap.get? b = some ob → h₁.get? b = some ob := fun b ob e => hsb₁.extBut b ob (lt012 (Heap.lt_size e)).2.2 (Heap.get?_push_of_some _ (Heap.get?_push_of_some _ (Heap.get?_push_of_some _ e)))
  have hacc : Ls (s₁.heap.objs.size + 1) [] h₁ := .new (n := 0) (d := none) (sl := #[]) (hsb₁.extBut _ _ n12 (Heap.get?_push_of_some _ (Heap.get?_push_at hD.symm rfl)))
  have hit : h₁.IsListIter s₁.heap.objs.size a 0 := ⟨_, hsb₁.extBut _ _ n02 (Heap.get?_push_of_some _ (Heap.get?_push_of_some _ (Heap.get?_push_size _ rfl))), rfl, rfl⟩
  clear hsb₁ hD hC
  generalize hI : s₁.heap.objs.size = I at *
  have hs1 : s₁.heap.objs.size ≤ I := Nat.le_of_eq hI
  have hp1 : PrL a ps h₁ := hp.kp fun b ob e _ => old b ob e
  generalize hcenv : ({ scope := relabel scope env, locals := (newEnv scope (I + 2) env.globals [] env.qual none Value.none (some env) builtinsNs).locals, globals := (newEnv scope (I + 2) env.globals [] env.qual none Value.none (some env) builtinsNs).globals, cells := (newEnv scope (I + 2) env.globals [] env.qual none Value.none (some env) builtinsNs).cells, qual := (newEnv scope (I + 2) env.globals [] env.qual none Value.none (some env) builtinsNs).qual, func := (newEnv scope (I + 2) env.globals [] env.qual none Value.none (some env) builtinsNs).func, code := (newEnv scope (I + 2) env.globals [] env.qual none Value.none (some env) builtinsNs).code, frame := (newEnv scope (I + 2) env.globals [] env.qual none Value.none (some env) builtinsNs).frame, builtins := (newEnv scope (I + 2) env.globals [] env.qual none Value.none (some env) builtinsNs).builtins } : Env) = cenv
  have ce2 : cenv.locals = I + 2 := by rw [← hcenv]; rfl
  have ca : cenv.kindOf xa = some .local := by rw [← hcenv]; exact lookup_relabel_local (env := env) hxa
  have cb : cenv.kindOf xb = some .local := by rw [← hcenv]; exact lookup_relabel_local (env := env) hxb
  have ck : cenv.scope.kind = .function := by rw [← hcenv]; exact hkind
  show codeAny (MM w) A _ (compPost (MM w) A E none Q (.ref (I + 1)) (I + 2)) _
  clear hcenv
  have loop : codeAny (MM w) A (.compLoop (.ListComp (.Name xb px) [⟨.Tuple [.Name xa pa, .Name xb pb] kt pt, iter, [], 0⟩] scope pos) 0 (.ref I) (.ref (I + 1)) cenv) (compPost (MM w) A E none Q (.ref (I + 1)) (I + 2)) { s₁ with heap := h₁, toks := s₁.toks + ([] : List (Str × Value)).length } := by
    refine kcp_loop (fun k s' => ∃ (h' : Heap) (tk i : Nat) (ts : List (List Nat × Tok)) (m' : Str → Option Value), s' = { s₁ with heap := h', toks := tk } ∧ i ≤ ps.length ∧ k = ps.length + 1 - i ∧ h'.IsListIter I a i ∧ PrL a ps h' ∧ Ls (I + 1) (ts.map fun p => .str (tx p.1) p.2) h' ∧ ts.map (·.1) = (ps.take i).map (fun p => [p.2.1]) ∧ h'.Ns (I + 2) m' ∧ ∀ b ob, s₁.heap.get? b = some ob → h'.get? b = some ob) ?_ (ps.length + 1)
      ⟨h₁, _, 0, [], _, rfl, Nat.zero_le _, rfl, hit, hp1, hacc, rfl, hns₁, old⟩
    rintro k s' ⟨h', tk, i, ts, m', rfl, hi, rfl, hit', hp', hys, hts, hn', hk'⟩
    by_cases hlt : i < ps.length
    · obtain ⟨p, hpi⟩ : ∃ p, ps[i]? = some p := ⟨_, List.getElem?_eq_getElem hlt⟩
      have hpm := List.mem_of_getElem? hpi
      have hIa : ∀ b, b = a ∨ (∃ p ∈ ps, b = p.1) → b ≠ I ∧ b ≠ I + 1 ∧ b ≠ I + 2 := fun b hb => lt012 (lt1 b hb)
      refine wpAny_pyNext_list_item hit' hp'.1.isList (x := .ref p.1) (by simp [hpi]) fun h₂ hit₂ hs₂ => ?_
      have hp2 : PrL a ps h₂ := hp'.kp fun b ob e hb => hs₂.extBut _ _ (hIa b hb).1 e
      refine wpAny_letOwnedTupleGo_listiter hit₂ ?_
      refine kcp_assign hh (hp2.2 p hpm) ca cb (by rw [ck]; rfl) (by rw [ce2]; exact hn'.at' fun ob e => hs₂.extBut _ _ n20 e) fun h₃ tk₃ hn₃ hk₃ => ?_
      rw [ce2] at hn₃ hk₃
      refine wpAny_Name (wpAny_loadName_local (v := .str (tx [p.2.1]) p.2.2.2) ck cb (by rw [ce2]; exact hn₃) (by simp) ?_) hdb
      have hys₃ : Ls (I + 1) (ts.map fun p => .str (tx p.1) p.2) h₃ := hys.at fun ob e _ => hk₃ _ _ n12 (hs₂.extBut _ _ n10 e)
      have hlen : ts.length ≤ i := by
        have := congrArg List.length hts
        simp at this; omega
      refine wpAny_list_append hys₃.isList (hsz := by simp; omega) fun h₄ hl₄ hs₄ => ?_
      refine ⟨ps.length + 1 - (i + 1), by omega, h₄, tk₃, i + 1, ts ++ [([p.2.1], p.2.2.2)], _, rfl, hlt, rfl, ?_, ?_, ?_, ?_, hn₃.at' fun ob e => hs₄.extBut _ _ n21 e, fun b ob e => ?_⟩
      · exact hit₂.at fun ob e => hs₄.extBut _ _ n01 (hk₃ _ _ n02 e)
      · exact hp2.kp fun b ob e hb => hs₄.extBut _ _ (hIa b hb).2.1 (hk₃ _ _ (hIa b hb).2.2 e)
      · simpa [Ls] using hl₄
      · rw [List.map_append, hts, List.take_add_one, hpi]; simp
      · have hb := lt012 (Nat.lt_of_lt_of_le (Heap.lt_size e) hs1)
        exact hs₄.extBut _ _ hb.2.1 (hk₃ _ _ hb.2.2 (hs₂.extBut _ _ hb.1 (hk' b ob e)))
    · have hin : i = ps.length := by omega
      subst hin
      refine wpAny_pyNext_list_end hh hit' hp'.1.isList (by simp) fun h₂ he₂ => ?_
      refine ⟨_, hn'.at' fun ob e => he₂ _ _ n20 e, fun h₃ hs₃ => ?_⟩
      have kp : ∀ b ob, s₁.heap.get? b = some ob → h₃.get? b = some ob := fun b ob e => by
        have hb := lt012 (Nat.lt_of_lt_of_le (Heap.lt_size e) hs1)
        exact hs₃.extBut _ _ hb.2.2 (he₂ _ _ hb.1 (hk' b ob e))
      have hD3 : Ls (I + 1) (ts.map fun p => .str (tx p.1) p.2) h₃ := hys.at fun ob e _ => hs₃.extBut _ _ n12 (he₂ _ _ n10 e)
      have G : Gw s₁ { s₁ with heap := h₃, toks := tk } := .of_keep kp (Nat.le_trans hs1 (Nat.le_of_lt (Nat.lt_trans (Nat.lt_succ_self _) hD3.lt)))
      rw [List.take_length] at hts
      have off := Fr.off (a := I + 1) (Nat.le_trans hs1 (Nat.le_succ _))
      exact fin (I + 1) _ (Nat.le_succ _) off ((Fr.gws G).pin (stb_strs _ off) ⟨ts, hD3, hts⟩)
  exact codeAny_compStart_list loop (wpAny_pyIter_listiter hit loop)
end
end Mine
namespace Mine
set_option maxRecDepth 100000
set_option maxHeartbeats 4000000
open PySem PySem.W PyProof.Rows
theorem sx0 : Str.ofString "" = tx [] := by decide +kernel
theorem sx1 : Str.ofString "." = tx [46] := by decide +kernel
theorem sx2 : Str.ofString "12345" = tx [49, 50, 51, 52, 53] := by decide +kernel
theorem sx3 : Str.ofString "\r" = tx [13] := by decide +kernel
theorem sx4 : Str.ofString "\n" = tx [10] := by decide +kernel
theorem sx5 : Str.ofString "\r\n" = tx [13, 10] := by decide +kernel
theorem sx6 : Str.ofString "9" = tx [57] := by decide +kernel
theorem sx7 : Str.ofString "(" = tx [40] := by decide +kernel
theorem sx8 : Str.ofString ")" = tx [41] := by decide +kernel
theorem sx9 : Str.ofString "0)" = tx [48, 41] := by decide +kernel
theorem sx10 : Str.ofString "229" = tx [50, 50, 57] := by decide +kernel
theorem sx11 : Str.ofString "228" = tx [50, 50, 56] := by decide +kernel
theorem sx12 : Str.ofString "229 (" = tx [50, 50, 57, 32, 40] := by decide +kernel
theorem sx13 : Str.ofString "|!;" = tx [124, 33, 59] := by decide +kernel
theorem sx14 : Str.ofString "proto" = tx [112, 114, 111, 116, 111] := by decide +kernel
theorem sx15 : Str.ofString "reply" = tx [114, 101, 112, 108, 121] := by decide +kernel
theorem sx16 : Str.ofString "peer" = tx [112, 101, 101, 114] := by decide +kernel
theorem sx17 : Str.ofString ".." = tx [46, 46] := by decide +kernel
/-! ## _law_number -/
noncomputable def fdT (s : Stmt) (nm qual : Str) (clo : List (Str × Addr)) (df pm cd ct : Value) : FuncData :=
  { name := nm, qualname := qual, params := fA s, body := .stmts (fB s), scope := fS s, globals := mainGlobals, closure := clo, defaults := df, kwdefaults := .none, doc := .none, pyModule := pm, annotations := none, code := cd, closureTuple := ct, builtins := builtinsNs }
noncomputable def fdL (i : Nat) (nm : Str) (cd : Nat) : FuncData := fdT (st i) nm nm [] .none (.str "law_xl0004_01" 523) (.ref cd) .none

noncomputable def numB : List Int := [360, 141, 335, 1, 3, 4, 5, 1]
noncomputable def numF (ns : List Int) (p : Nat) : Int := numB.getD p 0 + ns.getD p 0

theorem fn_number (P : Params) : fnOk P 188 (fdL 16 "_law_number" 187) := ⟨by decide, by kernel_rfl⟩
theorem number_spec {w : World} {A : Around} {E : Value → Shared → Prop} {s : Shared} {a : Addr} {ns : List Int} {p : Nat} {t : Tok} {Q : Value → Shared → Prop} (W : Wd w s.heap) (R : Rm A 2)
    (hs : Ints a ns s.heap) (hlen : ns.length ≤ 63) (hp : p < 8) (h : ∀ t s', Gw s s' → Q (.int (numF ns p) t) s') : wpAny (MM w) A (call (.ref 188) [.ref a, .int p t]) Q E s := by
  refine callF (body := fB (st 16)) (binds := [("script", .ref a), ("place", .int p t)]) ["script", "place"] W R.lim (fn_number _) (by kernel_rfl) (by kernel_rfl) (by kernel_rfl) (by kernel_rfl) (by kernel_rfl) rfl (by decide +kernel) (by decide +kernel) (by kernel_rfl) ⟨rfl, rfl⟩ ?_
  intro s₁ env henv F
  conv in fB _ => whnf
  ((with_reducible refine e_cons ?_; refine e_assign ?_ (by kernel_rfl); refine r_sub ?_; refine r_list ?_; refine i_cons ?_ (by kernel_rfl)); (with_reducible refine r_int (by assumption) ?_); intro _ _ _; (with_reducible refine i_cons ?_ (by kernel_rfl)); (with_reducible refine r_int (by assumption) ?_); intro _ _ _; (with_reducible refine i_cons ?_ (by kernel_rfl)); (with_reducible refine r_int (by assumption) ?_); intro _ _ _; (with_reducible refine i_cons ?_ (by kernel_rfl)); (with_reducible refine r_int (by assumption) ?_); intro _ _ _; (with_reducible refine i_cons ?_ (by kernel_rfl)); (with_reducible refine r_int (by assumption) ?_); intro _ _ _; (with_reducible refine i_cons ?_ (by kernel_rfl)); (with_reducible refine r_int (by assumption) ?_); intro _ _ _; (with_reducible refine i_cons ?_ (by kernel_rfl)); (with_reducible refine r_int (by assumption) ?_); intro _ _ _; (with_reducible refine i_cons ?_ (by kernel_rfl)); (with_reducible refine r_int (by assumption) ?_); intro _ _ _; (with_reducible refine i_nil ?_))
  refine ⟨by simp [sizeLine], _, _, _, _, _, by assumption, ?_⟩
  intro b s₂ ha hoff F
  ((with_reducible refine lkp_name (v := ?v1) (by assumption) ?h1 ?_ (by kernel_rfl)); (case h1 => repeat (first | with_reducible exact lkp_here _ _ _ | with_reducible assumption | refine lkp_there (by kernel_rfl) ?_)))
  have hI : Ints b numB s₂.heap := ⟨[(360, _), (141, _), (335, _), (1, _), (3, _), (4, _), (5, _), (1, _)], F.pins.1, rfl⟩
  refine sub_list F.pins.1 ?_
  refine item_ints (k := p) hI rfl (by omega) (m := numB.getD p 0) (by rw [List.getD_eq_getElem?_getD, List.getElem?_eq_getElem (show p < numB.length from hp)]; rfl) ?_
  intro t'
  ((with_reducible refine storeV (by assumption) ?_ (by kernel_rfl)); intro _ _; (with_reducible refine e_cons ?_; refine e_if ?_; refine t_cmp ?_ (by kernel_rfl)); (with_reducible refine lkp_name (v := ?v2) (by assumption) ?h2 ?_ (by kernel_rfl)); (case h2 => repeat (first | with_reducible exact lkp_here _ _ _ | with_reducible assumption | refine lkp_there (by kernel_rfl) ?_)); (with_reducible refine r_call ?_); (with_reducible refine name_boot (v := ?v3) (by assumption) ?h3 ?_ (by kernel_rfl) (by kernel_rfl)); (case h3 => exact bt_len); (with_reducible refine cw_builtin ?_ (by kernel_rfl) (by kernel_rfl); refine i_cons ?_ (by kernel_rfl)); (with_reducible refine lkp_name (v := ?v4) (by assumption) ?h4 ?_ (by kernel_rfl)); (case h4 => repeat (first | with_reducible exact lkp_here _ _ _ | with_reducible assumption | refine lkp_there (by kernel_rfl) ?_)); (with_reducible refine i_nil ?_))
  obtain ⟨ts, hl, hts⟩ := id hs
  have hl' := hl.gw (Fm.gw (by assumption))
  have hlt : (intV ts).length = ns.length := by rw [← hts]; simp [intV]
  refine len_ls (by assumption) hl' (by omega) ?_
  intro t₃ s₃ F
  ((with_reducible refine lt_int ?_; refine wpAny_truthy_bool ?_))
  rw [hlt]
  by_cases hc : (p : Int) < ns.length
  · refine if_t (by simpa using hc) ?_
    ((with_reducible refine e_cons ?_; refine e_assign ?_ (by kernel_rfl); refine v_bin ?_); (with_reducible refine lkp_name (v := ?v5) (by assumption) ?h5 ?_ (by kernel_rfl)); (case h5 => repeat (first | with_reducible exact lkp_here _ _ _ | with_reducible assumption | refine lkp_there (by kernel_rfl) ?_)); (with_reducible refine r_sub ?_); (with_reducible refine lkp_name (v := ?v6) (by assumption) ?h6 ?_ (by kernel_rfl)); (case h6 => repeat (first | with_reducible exact lkp_here _ _ _ | with_reducible assumption | refine lkp_there (by kernel_rfl) ?_)); (with_reducible refine lkp_name (v := ?v7) (by assumption) ?h7 ?_ (by kernel_rfl)); (case h7 => repeat (first | with_reducible exact lkp_here _ _ _ | with_reducible assumption | refine lkp_there (by kernel_rfl) ?_)))
    refine sub_list (hl.gw (Fm.gw (by assumption))) ?_
    refine item_ints (k := p) (hs.gw (Fm.gw (by assumption))) rfl (by omega) (m := ns.getD p 0) (by rw [List.getElem?_eq_getElem (by omega), List.getD_eq_getElem?_getD, List.getElem?_eq_getElem (by omega)]; rfl) ?_
    intro t₄
    ((with_reducible refine o_add (by assumption) ?_); intro _ _ _; (with_reducible refine storeV (by assumption) ?_ (by kernel_rfl)); intro _ _; (with_reducible refine e_nil ?_; refine e_cons ?_; refine e_ret ?_); (with_reducible refine lkp_name (v := ?v8) (by assumption) ?h8 ?_ (by kernel_rfl)); (case h8 => repeat (first | with_reducible exact lkp_here _ _ _ | with_reducible assumption | refine lkp_there (by kernel_rfl) ?_)))
    exact h _ _ (Fm.gw (by assumption))
  · refine if_f (by simpa using hc) ?_
    ((with_reducible refine e_nil ?_; refine e_cons ?_; refine e_ret ?_); (with_reducible refine lkp_name (v := ?v9) (by assumption) ?h9 ?_ (by kernel_rfl)); (case h9 => repeat (first | with_reducible exact lkp_here _ _ _ | with_reducible assumption | refine lkp_there (by kernel_rfl) ?_)))
    have : numF ns p = numB.getD p 0 := by
      unfold numF
      rw [List.getD_eq_getElem?_getD, List.getD_eq_getElem?_getD, List.getElem?_eq_none (l := ns) (by omega)]; simp
    rw [← this]
    exact h _ _ (Fm.gw (by assumption))
/-! ## _law_word -/
structure WordOk (x : List Nat) : Prop where
  ne : x ≠ []
  len : x.length ≤ 3
  srt : x.Pairwise (· ≤ ·)
  dig : ∀ c ∈ x, 49 ≤ c ∧ c ≤ 53
theorem word_ok {a b c k : Nat} {yss : List (List Nat)} (ha : a < 5) (hb : b < 5) (hc : c < 5) (hk : 1 ≤ k ∧ k ≤ 3) (hp : yss.Perm (([[49 + a], [49 + b], [49 + c]] : List (List Nat)).take k)) (hs : sortedS (yss.map tx) = true) : WordOk yss.flatten := by
  have hmem : ∀ y ∈ yss, ∃ d, y = [d] ∧ 49 ≤ d ∧ d ≤ 53 := fun y hy => by
    have := List.mem_of_mem_take (hp.mem_iff.mp hy)
    simp at this
    rcases this with rfl | rfl | rfl
    · exact ⟨_, rfl, by omega, by omega⟩
    · exact ⟨_, rfl, by omega, by omega⟩
    · exact ⟨_, rfl, by omega, by omega⟩
  have hone : ∀ zss : List (List Nat), (∀ y ∈ zss, ∃ d, y = [d] ∧ 49 ≤ d ∧ d ≤ 53) → ∃ ds : List Nat, zss = ds.map ([·]) ∧ ∀ d ∈ ds, 49 ≤ d ∧ d ≤ 53 := by
    intro zss
    induction zss with
    | nil => exact fun _ => ⟨[], rfl, fun _ h => nomatch h⟩
    | cons z r ih =>
      intro h
      obtain ⟨d, rfl, hd⟩ := h z (List.mem_cons_self ..)
      obtain ⟨ds, rfl, hds⟩ := ih fun y hy => h y (List.mem_cons_of_mem _ hy)
      exact ⟨d :: ds, rfl, fun x hx => by rcases List.mem_cons.mp hx with rfl | hx; exact hd; exact hds x hx⟩
  obtain ⟨ds, rfl, hds⟩ := hone yss hmem
  have hfl : ∀ ds : List Nat, (ds.map ([·])).flatten = ds := fun ds => by
    induction ds with
    | nil => rfl
    | cons d r ih => simp at ih ⊢; exact ih
  have hlen : ds.length = k := by have := hp.length_eq; simp at this; omega
  rw [hfl]
  refine ⟨fun e => by subst e; simp at hlen; omega, by omega, ?_, hds⟩
  have rise : ∀ (p : Nat) (r : List Nat), risingS (tx [p]) ((r.map ([·])).map tx) = true → (p :: r).Pairwise (· ≤ ·) := by
    intro p r
    induction r generalizing p with
    | nil => exact fun _ => List.pairwise_singleton _ _
    | cons q r ih =>
      intro h
      simp only [List.map_cons, risingS, Bool.and_eq_true, Bool.not_eq_true'] at h
      have h1 : p ≤ q := by
        have h1 := h.1
        have h1 : (decide (q < p) || (q == p && Spec.ltCps [] [])) = false := h1
        simp at h1; omega
      have h2 := ih q h.2
      refine List.pairwise_cons.mpr ⟨fun x hx => ?_, h2⟩
      rcases List.mem_cons.mp hx with rfl | hx
      · exact h1
      · exact Nat.le_trans h1 (List.rel_of_pairwise_cons h2 hx)
  cases ds with
  | nil => exact .nil
  | cons d r => exact rise d r hs
theorem fn_word (P : Params) : fnOk P 195 (fdL 17 "_law_word" 194) := ⟨by decide, by kernel_rfl⟩
theorem word_spec {w : World} {A : Around} {E : Value → Shared → Prop} {s : Shared} {m : Int} {t : Tok} {Q : Value → Shared → Prop} (W : Wd w s.heap) (R : Rm A 2)
    (h : ∀ x t s', WordOk x → Gw s s' → Q (.str (tx x) t) s') : wpAny (MM w) A (call (.ref 195) [.int m t]) Q E s := by
  refine callF (body := fB (st 17)) (binds := [("number", .int m t)]) ["number"] W R.lim (fn_word _) (by kernel_rfl) (by kernel_rfl) (by kernel_rfl) (by kernel_rfl) (by kernel_rfl) rfl (by decide +kernel) (by decide +kernel) (by kernel_rfl) ⟨rfl, rfl⟩ ?_
  intro s₁ env henv F
  conv in fB _ => whnf
  ((with_reducible refine e_cons ?_; refine e_assign ?_ (by kernel_rfl); refine r_list ?_; refine i_cons ?_ (by kernel_rfl); refine r_sub ?_); (with_reducible refine r_str (xs := ?x10) ?h10 (by assumption) ?_); (case h10 => exact sx2); intro _ _ _; (with_reducible refine v_bin ?_); (with_reducible refine lkp_name (v := ?v11) (by assumption) ?h11 ?_ (by kernel_rfl)); (case h11 => repeat (first | with_reducible exact lkp_here _ _ _ | with_reducible assumption | refine lkp_there (by kernel_rfl) ?_)); (with_reducible refine r_int (by assumption) ?_); intro _ _ _; (with_reducible refine o_modI (by assumption) ?_ (by decide)); intro _ _ _)
  have dig : ∀ j : Int, ∃ k : Nat, j % 5 = k ∧ k < 5 ∧ [49, 50, 51, 52, 53][k]? = some (49 + k) := fun j => by
    refine ⟨(j % 5).toNat, by omega, by omega, ?_⟩
    have : (j % 5).toNat < 5 := by omega
    match hk : (j % 5).toNat, this with
    | 0, _ => rfl
    | 1, _ => rfl
    | 2, _ => rfl
    | 3, _ => rfl
    | 4, _ => rfl
  obtain ⟨a, ha, ha5, ha'⟩ := dig m
  obtain ⟨b, hb, hb5, hb'⟩ := dig (m / 5)
  obtain ⟨c, hc, hc5, hc'⟩ := dig (m / 25)
  refine sub_str (item_tx (by assumption) ha (by omega) ha' ?_); intro _ _ _
  ((with_reducible refine i_cons ?_ (by kernel_rfl); refine r_sub ?_); (with_reducible refine r_str (xs := ?x12) ?h12 (by assumption) ?_); (case h12 => exact sx2); intro _ _ _; (with_reducible refine v_bin ?_; refine v_bin ?_); (with_reducible refine lkp_name (v := ?v13) (by assumption) ?h13 ?_ (by kernel_rfl)); (case h13 => repeat (first | with_reducible exact lkp_here _ _ _ | with_reducible assumption | refine lkp_there (by kernel_rfl) ?_)); (with_reducible refine r_int (by assumption) ?_); intro _ _ _; (with_reducible refine o_divI (by assumption) ?_ (by decide) (by decide)); intro _ _ _; (with_reducible refine r_int (by assumption) ?_); intro _ _ _; (with_reducible refine o_modI (by assumption) ?_ (by decide)); intro _ _ _)
  refine sub_str (item_tx (by assumption) hb (by omega) hb' ?_); intro _ _ _
  ((with_reducible refine i_cons ?_ (by kernel_rfl); refine r_sub ?_); (with_reducible refine r_str (xs := ?x14) ?h14 (by assumption) ?_); (case h14 => exact sx2); intro _ _ _; (with_reducible refine v_bin ?_; refine v_bin ?_); (with_reducible refine lkp_name (v := ?v15) (by assumption) ?h15 ?_ (by kernel_rfl)); (case h15 => repeat (first | with_reducible exact lkp_here _ _ _ | with_reducible assumption | refine lkp_there (by kernel_rfl) ?_)); (with_reducible refine r_int (by assumption) ?_); intro _ _ _; (with_reducible refine o_divI (by assumption) ?_ (by decide) (by decide)); intro _ _ _; (with_reducible refine r_int (by assumption) ?_); intro _ _ _; (with_reducible refine o_modI (by assumption) ?_ (by decide)); intro _ _ _)
  refine sub_str (item_tx (by assumption) hc (by omega) hc' ?_); intro _ _ _
  ((with_reducible refine i_nil ?_))
  refine ⟨by simp [sizeLine], _, _, _, _, _, by assumption, ?_⟩
  intro la s₂ hla hoff F
  ((with_reducible refine storeV (by assumption) ?_ (by kernel_rfl)); intro _ _; (with_reducible refine e_cons ?_; refine e_ret ?_); (with_reducible refine r_meth (pl := ?p16) ?_ ?e16); (case e16 => exact rfl); (with_reducible refine r_str (xs := ?x17) ?h17 (by assumption) ?_); (case h17 => exact sx0); intro _ _ _; (with_reducible refine GM.join ?_; refine cw_builtin ?_ (by kernel_rfl) (by kernel_rfl); refine i_cons ?_ (by kernel_rfl); refine r_call ?_); (with_reducible refine name_boot (v := ?v18) (by assumption) ?h18 ?_ (by kernel_rfl) (by kernel_rfl)); (case h18 => exact bt_sorted); (with_reducible refine cw_builtin ?_ (by kernel_rfl) (by kernel_rfl); refine i_cons ?_ (by kernel_rfl); refine r_slice ?_); (with_reducible refine lkp_name (v := ?v19) (by assumption) ?h19 ?_ (by kernel_rfl)); (case h19 => repeat (first | with_reducible exact lkp_here _ _ _ | with_reducible assumption | refine lkp_there (by kernel_rfl) ?_)); (with_reducible refine p_none ?_; refine p_some ?_; refine v_bin ?_); (with_reducible refine r_int (by assumption) ?_); intro _ _ _; (with_reducible refine v_bin ?_; refine v_bin ?_); (with_reducible refine lkp_name (v := ?v20) (by assumption) ?h20 ?_ (by kernel_rfl)); (case h20 => repeat (first | with_reducible exact lkp_here _ _ _ | with_reducible assumption | refine lkp_there (by kernel_rfl) ?_)); (with_reducible refine r_int (by assumption) ?_); intro _ _ _; (with_reducible refine o_divI (by assumption) ?_ (by decide) (by decide)); intro _ _ _; (with_reducible refine r_int (by assumption) ?_); intro _ _ _; (with_reducible refine o_modI (by assumption) ?_ (by decide)); intro _ _ _; (with_reducible refine o_add (by assumption) ?_); intro _ _ _)
  obtain ⟨k, hk, hk3⟩ : ∃ k : Nat, 1 + m / 125 % 3 = k ∧ 1 ≤ k ∧ k ≤ 3 := ⟨(1 + m / 125 % 3).toNat, by omega, by omega, by omega⟩
  rw [hk]
  have hS : Ls la ([([49 + a], _), ([49 + b], _), ([49 + c], _)].map fun p : List Nat × Tok => .str (tx p.1) p.2) _ := Fm.pins_fst (by assumption)
  refine slice_ls (by assumption) hS .none (.int _ _) (by simp [sizeLine]) (slicePick_upto' _ k) ?_
  intro lb s₃ hlb hoffb F
  ((with_reducible refine i_nil ?_))
  have hT : Strs lb (([[49 + a], [49 + b], [49 + c]] : List (List Nat)).take k) _ := ⟨[([49 + a], _), ([49 + b], _), ([49 + c], _)].take k, by rw [List.map_take]; exact F.pins.1, by rw [List.map_take]; rfl⟩
  refine sorted_tx (by assumption) hT (by simp; omega) ?_
  intro lc s₄ yss _ _ hperm hsrt F
  ((with_reducible refine i_nil ?_))
  have wok := word_ok ha5 hb5 hc5 hk3 hperm hsrt
  refine join_tx (by assumption) F.pins.1 (by have := wok.len; simp [sizeLine] at this ⊢; omega) ?_
  intro _ _ _
  exact h _ _ _ wok (Fm.gw (by assumption))
/-! ## _law_fits -/
theorem cov_len : ∀ {u v : List Nat}, Cov u v → v.length ≤ u.length
  | _, [], _ => Nat.zero_le _
  | [], _ :: _, h => h.elim
  | _ :: _, _ :: _, h => by have := cov_len h.2; simp; omega
theorem cov_all : ∀ (u q : List Nat), q.length ≤ u.length → ((∀ i ∈ List.range q.length, u.getD i 0 < q.getD i 0) ↔ Cov u q)
  | _, [], _ => by simp [Cov]
  | [], _ :: _, h => by simp at h
  | b :: u, a :: q, h => by
    have ih := cov_all u q (by simpa using h)
    rw [cov_cons, ← ih]
    constructor
    · intro H
      refine ⟨by simpa using H 0 (by simp), fun i hi => ?_⟩
      have := H (i + 1) (by simpa using hi)
      simpa using this
    · rintro ⟨h0, H⟩ i hi
      cases i with
      | zero => simpa using h0
      | succ i => simpa using H i (by simpa using hi)
theorem cov_tests {u v : List Nat} {r : Nat} (h : v.length ≤ u.length + r) : (∀ i ∈ List.range (v.length - r), ¬ decide (v.getD (r + i) 0 ≤ u.getD i 0) = true) ↔ Cov u (v.drop r) := by
  have e : ∀ i, v.getD (r + i) 0 = (v.drop r).getD i 0 := fun i => by simp [List.getD_eq_getElem?_getD]
  have hl : v.length - r = (v.drop r).length := by simp
  simp only [e, decide_eq_true_eq, Nat.not_le]
  rw [hl]
  exact cov_all _ _ (by rw [List.length_drop]; omega)
theorem fn_fits (P : Params) : fnOk P 200 (fdL 18 "_law_fits" 199) := ⟨by decide, by kernel_rfl⟩
theorem fits_spec {w : World} {A : Around} {E : Value → Shared → Prop} {s : Shared} {u v : List Nat} {r : Nat} {t1 t2 t3 : Tok} {Q : Value → Shared → Prop} (W : Wd w s.heap) (R : Rm A 2)
    (hu : u.length ≤ 3) (hv : v.length ≤ 3) (hr : r ≤ 1000) (h : ∀ b s', (b = true ↔ Cov u (v.drop r)) → Gw s s' → Q (.bool b) s') : wpAny (MM w) A (call (.ref 200) [.str (tx u) t1, .str (tx v) t2, .int r t3]) Q E s := by
  refine callF (body := fB (st 18)) (binds := [("upper", .str (tx u) t1), ("lower", .str (tx v) t2), ("right", .int r t3)]) ["upper", "lower", "right"] W R.lim (fn_fits _) (by kernel_rfl) (by kernel_rfl) (by kernel_rfl) (by kernel_rfl) (by kernel_rfl) rfl (by decide +kernel) (by decide +kernel) (by kernel_rfl) ⟨rfl, rfl⟩ ?_
  intro s₁ env henv F
  conv in fB _ => whnf
  ((with_reducible refine e_cons ?_; refine e_if ?_; refine t_cmp ?_ (by kernel_rfl); refine v_bin ?_; refine r_call ?_); (with_reducible refine name_boot (v := ?v21) (by assumption) ?h21 ?_ (by kernel_rfl) (by kernel_rfl)); (case h21 => exact bt_len); (with_reducible refine cw_builtin ?_ (by kernel_rfl) (by kernel_rfl); refine i_cons ?_ (by kernel_rfl)); (with_reducible refine lkp_name (v := ?v22) (by assumption) ?h22 ?_ (by kernel_rfl)); (case h22 => repeat (first | with_reducible exact lkp_here _ _ _ | with_reducible assumption | refine lkp_there (by kernel_rfl) ?_)); (with_reducible refine i_nil ?_))
  refine len_tx (by assumption) (by omega) ?_; intro _ _ _
  ((with_reducible refine lkp_name (v := ?v23) (by assumption) ?h23 ?_ (by kernel_rfl)); (case h23 => repeat (first | with_reducible exact lkp_here _ _ _ | with_reducible assumption | refine lkp_there (by kernel_rfl) ?_)); (with_reducible refine o_add (by assumption) ?_); intro _ _ _; (with_reducible refine r_call ?_); (with_reducible refine name_boot (v := ?v24) (by assumption) ?h24 ?_ (by kernel_rfl) (by kernel_rfl)); (case h24 => exact bt_len); (with_reducible refine cw_builtin ?_ (by kernel_rfl) (by kernel_rfl); refine i_cons ?_ (by kernel_rfl)); (with_reducible refine lkp_name (v := ?v25) (by assumption) ?h25 ?_ (by kernel_rfl)); (case h25 => repeat (first | with_reducible exact lkp_here _ _ _ | with_reducible assumption | refine lkp_there (by kernel_rfl) ?_)); (with_reducible refine i_nil ?_))
  refine len_tx (by assumption) (by omega) ?_; intro _ _ _
  ((with_reducible refine lt_int ?_; refine wpAny_truthy_bool ?_))
  by_cases hc : u.length + r < v.length
  · refine if_t (by simp; omega) ?_
    ((with_reducible refine e_cons ?_; refine e_ret ?_; refine wpAny_Constant_bool ?_))
    exact h _ _ ⟨(nomatch ·), fun e => absurd (cov_len e) (by rw [List.length_drop]; omega)⟩ (Fm.gw (by assumption))
  · refine if_f (by simp; omega) ?_
    ((with_reducible refine e_nil ?_; refine e_cons ?_; refine e_ret ?_; refine v_cmp ?_ (by kernel_rfl)))
    refine comp_rule [("upper", .str (tx u) t1), ("lower", .str (tx v) t2), ("right", .int r t3)] ["upper", "lower", "right"] (by assumption) ?_ rfl (by kernel_rfl) (by intro _; rfl)
    ((with_reducible refine r_call ?_); (with_reducible refine name_boot (v := ?v26) (by assumption) ?h26 ?_ (by kernel_rfl) (by kernel_rfl)); (case h26 => exact bt_range); (with_reducible refine cw_type ?_ (by kernel_rfl) (by kernel_rfl); refine i_cons ?_ (by kernel_rfl)); (with_reducible refine lkp_name (v := ?v27) (by assumption) ?h27 ?_ (by kernel_rfl)); (case h27 => repeat (first | with_reducible exact lkp_here _ _ _ | with_reducible assumption | refine lkp_there (by kernel_rfl) ?_)); (with_reducible refine i_cons ?_ (by kernel_rfl); refine r_call ?_); (with_reducible refine name_boot (v := ?v28) (by assumption) ?h28 ?_ (by kernel_rfl) (by kernel_rfl)); (case h28 => exact bt_len); (with_reducible refine cw_builtin ?_ (by kernel_rfl) (by kernel_rfl); refine i_cons ?_ (by kernel_rfl)); (with_reducible refine lkp_name (v := ?v29) (by assumption) ?h29 ?_ (by kernel_rfl)); (case h29 => repeat (first | with_reducible exact lkp_here _ _ _ | with_reducible assumption | refine lkp_there (by kernel_rfl) ?_)); (with_reducible refine i_nil ?_))
    refine len_tx (by assumption) (by omega) ?_; intro _ _ _
    ((with_reducible refine i_nil ?_))
    refine range_2 (by assumption) ?_; intro rg s₂ F
    refine ⟨_, _, v.length - r, _, fun i => decide (v.getD (r + i) 0 ≤ u.getD i 0), fun i y => ∃ t, y = .int (r + i : Nat) t, F, by (repeat (first | (with_reducible exact Subs.nil) | (refine Subs.cons ?hk ?_; (case hk => ((repeat (first | (with_reducible exact lkp_here _ _ _) | (with_reducible assumption) | refine lkp_there (by kernel_rfl) ?_))))))), iter_rg (R.deeper env).handled F.pins.1 (by omega) (by omega), by simp [sizeLine]; omega, ?_, ?_⟩
    · intro cenv i x s₃ E' hi hx g₃ F₃
      obtain ⟨tk, rfl⟩ := hx
      refine tests_one ?_
      ((with_reducible refine t_cmp ?_ (by kernel_rfl); refine r_sub ?_); (with_reducible refine lkp_name (v := ?v30) (by assumption) ?h30 ?_ (by kernel_rfl)); (case h30 => repeat (first | with_reducible exact lkp_here _ _ _ | with_reducible assumption | refine lkp_there (by kernel_rfl) ?_)); (with_reducible refine v_bin ?_); (with_reducible refine lkp_name (v := ?v31) (by assumption) ?h31 ?_ (by kernel_rfl)); (case h31 => repeat (first | with_reducible exact lkp_here _ _ _ | with_reducible assumption | refine lkp_there (by kernel_rfl) ?_)); (with_reducible refine lkp_name (v := ?v32) (by assumption) ?h32 ?_ (by kernel_rfl)); (case h32 => repeat (first | with_reducible exact lkp_here _ _ _ | with_reducible assumption | refine lkp_there (by kernel_rfl) ?_)); (with_reducible refine o_sub (by assumption) ?_); intro _ _ _)
      refine sub_str (item_tx (by assumption) (k := i) (by omega) (by omega) (List.getElem?_eq_getElem (show i < u.length by omega)) ?_); intro _ _ _
      ((with_reducible refine r_sub ?_); (with_reducible refine lkp_name (v := ?v33) (by assumption) ?h33 ?_ (by kernel_rfl)); (case h33 => repeat (first | with_reducible exact lkp_here _ _ _ | with_reducible assumption | refine lkp_there (by kernel_rfl) ?_)); (with_reducible refine lkp_name (v := ?v34) (by assumption) ?h34 ?_ (by kernel_rfl)); (case h34 => repeat (first | with_reducible exact lkp_here _ _ _ | with_reducible assumption | refine lkp_there (by kernel_rfl) ?_)))
      refine sub_str (item_tx (by assumption) (k := r + i) (by omega) (by omega) (List.getElem?_eq_getElem (show r + i < v.length by omega)) ?_); intro _ _ _
      refine ge_one ?_
      ((with_reducible refine wpAny_truthy_bool ?_))
      refine ⟨by simp [List.getD_eq_getElem?_getD, show i < u.length by omega, show r + i < v.length by omega], by ((refine ⟨_, by assumption, ?_⟩; intro h; first | exact h | exact h.2 | exact h.2.2 | exact h.2.2.2 | exact h.2.2.2.2)), fun _ => ?_⟩
      ((with_reducible refine lkp_name (v := ?v35) (by assumption) ?h35 ?_ (by kernel_rfl)); (case h35 => repeat (first | with_reducible exact lkp_here _ _ _ | with_reducible assumption | refine lkp_there (by kernel_rfl) ?_)))
      exact ⟨⟨_, rfl⟩, by ((refine ⟨_, by assumption, ?_⟩; intro h; first | exact h | exact h.2 | exact h.2.2 | exact h.2.2.2 | exact h.2.2.2.2))⟩
    · intro D ys s' hD hp F
      ((with_reducible refine r_list ?_; refine i_nil ?_))
      refine ⟨by simp [sizeLine], _, _, _, _, _, by assumption, ?_⟩
      intro lb s₂ _ _ F
      refine eq_ints (R.deeper env).u64 (F.pins.2.1.ints hp) ⟨[], F.pins.1, rfl⟩ ?_
      skip
      refine h _ _ ?_ (Fm.gw (by assumption))
      rw [decide_eq_true_eq, List.map_nil, List.map_eq_nil_iff, List.filter_eq_nil_iff]
      exact cov_tests (by omega)
/-! ## _law_ready -/
theorem filt_true {α : Type} (l : List α) : l.filter (fun _ => true) = l := by simp
noncomputable def readyP (xs : List (List Nat)) (k : Nat) : Bool := decide (dts (xs.getD (k + 1) []) < dts (xs.getD k []))
noncomputable def readyL (xs : List (List Nat)) : List Int := ((List.range xs.length).filter (readyP xs)).map fun (k : Nat) => (k : Int)
theorem fn_ready (P : Params) : fnOk P 210 (fdL 20 "_law_ready" 209) := ⟨by decide, by kernel_rfl⟩
theorem ready_spec {w : World} {A : Around} {E : Value → Shared → Prop} {s : Shared} {a : Addr} {xs : List (List Nat)} {Q : Value → Shared → Prop} (W : Wd w s.heap) (R : Rm A 2)
    (hs : Strs a xs s.heap) (hx : xs.length ≤ 4) (h : ∀ b s', Ints b (readyL xs) s'.heap → Gw s s' → Q (.ref b) s') : wpAny (MM w) A (call (.ref 210) [.ref a]) Q E s := by
  refine callF (body := fB (st 20)) (binds := [("rows", .ref a)]) ["rows"] W R.lim (fn_ready _) (by kernel_rfl) (by kernel_rfl) (by kernel_rfl) (by kernel_rfl) (by kernel_rfl) rfl (by decide +kernel) (by decide +kernel) (by kernel_rfl) ⟨rfl, rfl⟩ ?_
  intro s₁ env henv F
  conv in fB _ => whnf
  ((with_reducible refine e_cons ?_; refine e_assign ?_ (by kernel_rfl); refine v_bin ?_))
  refine comp_rule [] [] (by assumption) ?_ rfl (by kernel_rfl) (by intro _; rfl)
  ((with_reducible refine lkp_name (v := ?v36) (by assumption) ?h36 ?_ (by kernel_rfl)); (case h36 => repeat (first | with_reducible exact lkp_here _ _ _ | with_reducible assumption | refine lkp_there (by kernel_rfl) ?_)))
  refine ⟨_, _, xs.length, _, fun _ => true, fun i y => ∃ t, y = .int (dts (xs.getD i [])) t, F, by (repeat (first | (with_reducible exact Subs.nil) | (refine Subs.cons ?hk ?_; (case hk => ((repeat (first | (with_reducible exact lkp_here _ _ _) | (with_reducible assumption) | refine lkp_there (by kernel_rfl) ?_))))))), iter_strs (R.deeper env).handled (hs.gw F.gw), by simp [sizeLine]; omega, ?_, ?_⟩
  · intro cenv i x s₃ E' hi hx g₃ F₃
    obtain ⟨x, t, hx, rfl⟩ := hx
    refine tests_nil ⟨rfl, by ((refine ⟨_, by assumption, ?_⟩; intro h; first | exact h | exact h.2 | exact h.2.2 | exact h.2.2.2 | exact h.2.2.2.2)), fun _ => ?_⟩
    ((with_reducible refine r_meth (pl := ?p37) ?_ ?e37); (case e37 => exact rfl); (with_reducible refine lkp_name (v := ?v38) (by assumption) ?h38 ?_ (by kernel_rfl)); (case h38 => repeat (first | with_reducible exact lkp_here _ _ _ | with_reducible assumption | refine lkp_there (by kernel_rfl) ?_)); (with_reducible refine GM.count ?_; refine cw_builtin ?_ (by kernel_rfl) (by kernel_rfl); refine i_cons ?_ (by kernel_rfl)); (with_reducible refine r_str (xs := ?x39) ?h39 (by assumption) ?_); (case h39 => exact sx1); intro _ _ _; (with_reducible refine i_nil ?_))
    refine count_tx (by assumption) ?_; intro _ _ _
    refine ⟨⟨_, by rw [List.getD_eq_getElem?_getD, hx]; rfl⟩, by ((refine ⟨_, by assumption, ?_⟩; intro h; first | exact h | exact h.2 | exact h.2.2 | exact h.2.2.2 | exact h.2.2.2.2))⟩
  · intro D ys s' hD hp F
    rw [filt_true] at hp
    ((with_reducible refine r_list ?_; refine i_cons ?_ (by kernel_rfl)); (with_reducible refine r_int (by assumption) ?_); intro _ _ _; (with_reducible refine i_nil ?_))
    refine ⟨by simp [sizeLine], _, _, _, _, _, by assumption, ?_⟩
    intro lb s₂ _ _ F
    have h1 := hp.length
    skip
    refine add_ls F F.pins.2.1 F.pins.1 (by rw [List.length_range] at h1; simp [sizeLine]; omega) ?_
    intro L s₄ _ _ F
    obtain ⟨ts, rfl, hts⟩ := paired_ints (f := fun i => (dts (xs.getD i []) : Int)) hp
    have hI : Ints L ((List.range (xs.length + 1)).map fun i => (dts (xs.getD i []) : Int)) s₄.heap := ⟨ts ++ [(0, _)], by simpa [intV] using F.pins.1, by simp [hts, List.range_succ, dts]⟩
    ((with_reducible refine storeV (by assumption) ?_ (by kernel_rfl)); intro _ _; (with_reducible refine e_cons ?_; refine e_ret ?_))
    refine comp_rule [("dots", .ref L)] ["dots"] (by assumption) ?_ rfl (by kernel_rfl) (by intro _; rfl)
    ((with_reducible refine r_call ?_); (with_reducible refine name_boot (v := ?v40) (by assumption) ?h40 ?_ (by kernel_rfl) (by kernel_rfl)); (case h40 => exact bt_range); (with_reducible refine cw_type ?_ (by kernel_rfl) (by kernel_rfl); refine i_cons ?_ (by kernel_rfl); refine r_call ?_); (with_reducible refine name_boot (v := ?v41) (by assumption) ?h41 ?_ (by kernel_rfl) (by kernel_rfl)); (case h41 => exact bt_len); (with_reducible refine cw_builtin ?_ (by kernel_rfl) (by kernel_rfl); refine i_cons ?_ (by kernel_rfl)); (with_reducible refine lkp_name (v := ?v42) (by assumption) ?h42 ?_ (by kernel_rfl)); (case h42 => repeat (first | with_reducible exact lkp_here _ _ _ | with_reducible assumption | refine lkp_there (by kernel_rfl) ?_)); (with_reducible refine i_nil ?_))
    refine len_strs (by assumption) (hs.gw (Fm.gw (by assumption))) (by omega) ?_; intro _ _ _
    ((with_reducible refine i_nil ?_))
    refine range_1 (by assumption) ?_; intro rg s₅ F
    have hI : Ints L ((List.range (xs.length + 1)).map fun i => (dts (xs.getD i []) : Int)) s₅.heap := ⟨ts ++ [(0, _)], by simpa [intV] using F.pins.2.1, by simp [hts, List.range_succ, dts]⟩
    refine ⟨_, _, xs.length - 0, _, fun i => readyP xs i, fun i y => ∃ t, y = .int (i : Nat) t, F, by (repeat (first | (with_reducible exact Subs.nil) | (refine Subs.cons ?hk ?_; (case hk => ((repeat (first | (with_reducible exact lkp_here _ _ _) | (with_reducible assumption) | refine lkp_there (by kernel_rfl) ?_))))))), iter_rg (a := 0) (R.deeper env).handled F.pins.1 (by omega) (by omega), by simp [sizeLine]; omega, ?_, ?_⟩
    · intro cenv i x s₃ E' hi hx g₃ F₃
      obtain ⟨tk, rfl⟩ := hx
      refine tests_one ?_
      ((with_reducible refine t_cmp ?_ (by kernel_rfl); refine r_sub ?_); (with_reducible refine lkp_name (v := ?v43) (by assumption) ?h43 ?_ (by kernel_rfl)); (case h43 => repeat (first | with_reducible exact lkp_here _ _ _ | with_reducible assumption | refine lkp_there (by kernel_rfl) ?_)); (with_reducible refine lkp_name (v := ?v44) (by assumption) ?h44 ?_ (by kernel_rfl)); (case h44 => repeat (first | with_reducible exact lkp_here _ _ _ | with_reducible assumption | refine lkp_there (by kernel_rfl) ?_)))
      refine sub_ints (hI.gw (Fm.gw (by assumption))) (k := i) (by omega) (by omega) (gmr _ (by omega)) ?_; intro _
      ((with_reducible refine r_sub ?_); (with_reducible refine lkp_name (v := ?v45) (by assumption) ?h45 ?_ (by kernel_rfl)); (case h45 => repeat (first | with_reducible exact lkp_here _ _ _ | with_reducible assumption | refine lkp_there (by kernel_rfl) ?_)); (with_reducible refine v_bin ?_); (with_reducible refine lkp_name (v := ?v46) (by assumption) ?h46 ?_ (by kernel_rfl)); (case h46 => repeat (first | with_reducible exact lkp_here _ _ _ | with_reducible assumption | refine lkp_there (by kernel_rfl) ?_)); (with_reducible refine r_int (by assumption) ?_); intro _ _ _; (with_reducible refine o_add (by assumption) ?_); intro _ _ _)
      refine sub_ints (hI.gw (Fm.gw (by assumption))) (k := i + 1) (by omega) (by omega) (gmr _ (by omega)) ?_; intro _
      ((with_reducible refine gt_int ?_; refine wpAny_truthy_bool ?_))
      refine ⟨by simp [readyP], by ((refine ⟨_, by assumption, ?_⟩; intro h; first | exact h | exact h.2 | exact h.2.2 | exact h.2.2.2 | exact h.2.2.2.2)), fun _ => ?_⟩
      ((with_reducible refine lkp_name (v := ?v47) (by assumption) ?h47 ?_ (by kernel_rfl)); (case h47 => repeat (first | with_reducible exact lkp_here _ _ _ | with_reducible assumption | refine lkp_there (by kernel_rfl) ?_)))
      exact ⟨⟨tk, by simp⟩, by ((refine ⟨_, by assumption, ?_⟩; intro h; first | exact h | exact h.2 | exact h.2.2 | exact h.2.2.2 | exact h.2.2.2.2))⟩
    · intro D ys s' hD hp F
      skip
      exact h _ _ (F.pins.1.ints hp) F.gw
/-! ## _law_filled -/
noncomputable def RowsAt (as : List Addr) (rows : List (List Nat)) (h : Heap) : Prop := ∀ (k : Nat) (a : Addr) (r : List Nat), as[k]? = some a → rows[k]? = some r → Strs a (r.map ([·])) h
noncomputable def Grid (G : Addr) (as : List Addr) (rows : List (List Nat)) (h : Heap) : Prop := Ls G (as.map Value.ref) h ∧ RowsAt as rows h
theorem Strs.at {a : Addr} {xs : List (List Nat)} {h h' : Heap} (x : Strs a xs h) (k : ∀ o, h.get? a = some o → (Tb o → a ≠ 103) → h'.get? a = some o) : Strs a xs h' := let ⟨ts, e, r⟩ := x; ⟨ts, e.at k, r⟩
theorem stb_grid {env : Env} {G : Addr} {as : List Addr} (rows : List (List Nat)) (hG : offE env G) (has : ∀ a ∈ as, offE env a) : Stb env (Grid G as rows) := fun _ _ k x =>
  ⟨x.1.at fun o e t => k _ _ hG e t, fun i a r ha hr => (x.2 i a r ha hr).at fun o e t => k _ _ (has a (List.mem_of_getElem? ha)) e t⟩
theorem stb_rows {env : Env} {as : List Addr} (rows : List (List Nat)) (has : ∀ a ∈ as, offE env a) : Stb env (RowsAt as rows) := fun _ _ k x =>
  fun i a r ha hr => (x i a r ha hr).at fun o e t => k _ _ (has a (List.mem_of_getElem? ha)) e t
theorem rows_of {xs : List (List Nat)} {h : Heap} : ∀ {is : List Nat} {ys : List Value}, Paired (fun i y => ∃ b, y = .ref b ∧ Strs b ((xs.getD i []).map ([·])) h) is ys →
    ∃ bs : List Addr, ys = bs.map Value.ref ∧ bs.length = is.length ∧ ∀ (k : Nat) (b : Addr) (i : Nat), bs[k]? = some b → is[k]? = some i → Strs b ((xs.getD i []).map ([·])) h
  | _, _, .nil => ⟨[], rfl, rfl, fun k b i h => by simp at h⟩
  | _, _, .cons ⟨b, e, hb⟩ t => by
    obtain ⟨bs, rfl, hl, hr⟩ := rows_of t
    refine ⟨b :: bs, by rw [e]; rfl, by simp [hl], fun k c i h1 h2 => ?_⟩
    cases k with
    | zero => simp at h1 h2; subst h1; subst h2; exact hb
    | succ k => exact hr k c i (by simpa using h1) (by simpa using h2)
theorem rowsAt_of {xs : List (List Nat)} {h : Heap} {ys : List Value} (p : Paired (fun i y => ∃ b, y = .ref b ∧ Strs b ((xs.getD i []).map ([·])) h) (List.range xs.length) ys) :
    ∃ bs : List Addr, ys = bs.map Value.ref ∧ bs.length = xs.length ∧ RowsAt bs xs h := by
  obtain ⟨bs, e, hl, hr⟩ := rows_of p
  refine ⟨bs, e, by simpa using hl, fun k a r ha hk => ?_⟩
  have := hr k a k ha (by
    have := (List.getElem?_eq_some_iff.mp hk).1
    simp [this])
  rwa [List.getD_eq_getElem?_getD, hk] at this
theorem RowsAt.snoc {as : List Addr} {rows : List (List Nat)} {h : Heap} (x : RowsAt as rows h) (hl : as.length = rows.length) {a : Addr} {r : List Nat} (y : Strs a (r.map ([·])) h) : RowsAt (as ++ [a]) (rows ++ [r]) h := by
  intro k b q hb hq
  rcases Nat.lt_trichotomy k as.length with hk | hk | hk
  · rw [List.getElem?_append_left hk] at hb
    rw [List.getElem?_append_left (by omega)] at hq
    exact x k b q hb hq
  · subst hk
    rw [List.getElem?_append_right (Nat.le_refl _)] at hb
    rw [List.getElem?_append_right (by omega)] at hq
    simp at hb; subst hb
    rw [hl] at hq; simp at hq; subst hq
    exact y
  · rw [List.getElem?_eq_none (by simp; omega)] at hb; cases hb
theorem grid_set {G : Addr} {as : List Addr} {rows : List (List Nat)} {h h' : Heap} {p : Nat} {b : Addr} {r : List Nat} (x : Grid G as rows h) (hb : as[p]? = some b) (hG : G ∉ as) (hnd : as.Nodup) (hs : Heap.SameBut b h h') (y : Strs b (r.map ([·])) h') : Grid G as (rows.set p r) h' := by
  have hbm := List.mem_of_getElem? hb
  refine ⟨x.1.at fun o e _ => hs.extBut _ _ (fun e' => hG (e' ▸ hbm)) e, fun k a q ha hq => ?_⟩
  by_cases hk : k = p
  · subst hk
    rw [hb] at ha; cases ha
    have hlt := (List.getElem?_eq_some_iff.mp hq).1
    rw [List.getElem?_set_self (by simpa using hlt)] at hq
    cases hq; exact y
  · rw [List.getElem?_set_ne (Ne.symm hk)] at hq
    refine (x.2 k a q ha hq).at fun o e _ => hs.extBut _ _ (fun e' => hk ?_) e
    subst e'
    obtain ⟨h1, e1⟩ := List.getElem?_eq_some_iff.mp ha
    obtain ⟨h2, e2⟩ := List.getElem?_eq_some_iff.mp hb
    exact (List.getElem?_inj h1 hnd).mp (ha.trans hb.symm)
theorem dts_row (d : Nat) {u : List Nat} (hu : ∀ c ∈ u, c ≠ 46) : dts (List.replicate (d + 1) 46 ++ u) = d + 1 := by
  unfold dts
  rw [List.count_append, List.count_replicate_self, List.count_eq_zero.mpr fun h => hu 46 h rfl]
theorem split_row {xs : List (List Nat)} {p d : Nat} {u : List Nat} (hp : xs[p]? = some (List.replicate (d + 1) 46 ++ u)) : xs.take p ++ (List.replicate d 46 ++ 46 :: u) :: (xs.drop (p + 1) ++ [[]]) = xs ++ [[]] := by
  obtain ⟨h1, h2⟩ := List.getElem?_eq_some_iff.mp hp
  have e : List.replicate d 46 ++ 46 :: u = xs[p] := by rw [h2, List.replicate_succ']; simp
  rw [e]
  have := List.take_append_drop p xs
  rw [List.drop_eq_getElem_cons h1] at this
  have := congrArg (· ++ [([] : List Nat)]) this
  simp only [List.append_assoc, List.cons_append] at this
  exact this
theorem headD_le {low : List (List Nat)} (h : ∀ r ∈ low, r.length ≤ 1000) : (low.headD []).length ≤ 1000 := by
  cases low with
  | nil => simp
  | cons a r => exact h a (List.mem_cons_self ..)
theorem beside_at (pre Rr : List Nat) (x : Nat) : (((pre ++ x :: Rr).map ([·])).drop (pre.length + 1) ++ [[57]])[0]? = some [Rr.headD 57] := by
  rw [← List.map_drop]
  have : (pre ++ x :: Rr).drop (pre.length + 1) = Rr := by
    rw [← List.drop_drop, List.drop_left']; rfl; rfl
  rw [this]
  cases Rr <;> rfl
theorem below_at (l : List Nat) (k : Nat) : ((l.map ([·])).drop k ++ [[57]])[0]? = some [(l.drop k).headD 57] := by
  rw [← List.map_drop]
  cases l.drop k <;> rfl

noncomputable def whB : Stmt → List Stmt
  | .While _ b _ _ => b
  | .For _ _ b _ _ => b
  | _ => []
noncomputable def orB : Stmt → List Stmt
  | .If _ _ b _ => b
  | _ => []
theorem split_q {q : List Nat} {k β : Nat} (h : (q.drop k).headD 57 = β) (hb : β ≠ 57) : q = q.take k ++ β :: q.drop (k + 1) := by
  cases e : q.drop k with
  | nil => rw [e] at h; simp at h; exact absurd h.symm hb
  | cons c r =>
    rw [e] at h; simp at h; subst h
    have : q.drop (k + 1) = r := by rw [← List.drop_drop, e]; rfl
    rw [this, ← e, List.take_append_drop]
structure FS (G : Addr) (as : List Addr) (s : Shared) (env : Env) (N : Nat) : Prop where
  G0 : s.heap.objs.size ≤ G
  Goff : offE env G
  Gn : G ∉ as
  a0 : ∀ b ∈ as, s.heap.objs.size ≤ b
  aoff : ∀ b ∈ as, offE env b
  nd : as.Nodup
  len : as.length = N + 1
/-- the loop's states -/
noncomputable def FI (w : World) (s : Shared) (env : Env) (G : Addr) (as : List Addr) (N : Nat) (target : List (List Nat)) (n : Nat) (s' : Shared) : Prop := ∃ (mv : Bool) (hv pv : Int) (t1 t2 : Tok) (done low : List (List Nat)) (pre Rr : List Nat) (x : Nat),
      Fm w s true (fdL 21 "_law_filled" 214).scope env s' [("moving", .bool mv), ("hole", .int hv t1), ("place", .int pv t2), ("grid", .ref G)] (Grid G as (done ++ (pre ++ x :: Rr) :: (low ++ [[]]))) ∧ hv = pre.length ∧ pv = done.length ∧
      done.length + 1 + low.length = N ∧ pre.length + 1 + Rr.length ≤ 1000 ∧ (∀ r ∈ low, r.length ≤ 1000) ∧ (∀ c ∈ Rr, c < 57) ∧ (∀ r ∈ low, ∀ c ∈ r, c < 57) ∧
      (mv = true → done ++ slide low pre Rr = target ∧ n = 1 + low.length + (1000 - pre.length)) ∧ (mv = false → done ++ pre :: low = target ∧ Rr = [])
theorem filled_body {w : World} {A : Around} {E' : Value → Shared → Prop} {s s₀ : Shared} {env : Env} {G : Addr} {as : List Addr} {N n : Nat} {target : List (List Nat)} {hv pv : Int} {t1 t2 : Tok} {done low : List (List Nat)} {pre Rr : List Nat} {x : Nat}
    (S : FS G as s env N) (hN4 : N ≤ 4) (F : Fm w s true (fdL 21 "_law_filled" 214).scope env s₀ [("moving", .bool true), ("hole", .int hv t1), ("place", .int pv t2), ("grid", .ref G)] (Grid G as (done ++ (pre ++ x :: Rr) :: (low ++ [[]]))))
    (ehv : hv = pre.length) (epv : pv = done.length) (hN : done.length + 1 + low.length = N) (hM : pre.length + 1 + Rr.length ≤ 1000) (hlow : ∀ r ∈ low, r.length ≤ 1000) (hRd : ∀ c ∈ Rr, c < 57) (hlowd : ∀ r ∈ low, ∀ c ∈ r, c < 57)
    (ht1 : done ++ slide low pre Rr = target) (hn1 : n = 1 + low.length + (1000 - pre.length)) :
    wpAny (MM w) A (execs (whB ((fB (st 21)).getD 3 (.Pass default))) env) (KNx (FI w s env G as N target) n) E' s₀ := by
  conv in whB _ => whnf
  have hal := S.len
  have offG := S.Goff
  have offas := S.aoff
  obtain ⟨b, hb⟩ : ∃ b, as[done.length]? = some b := ⟨_, List.getElem?_eq_getElem (by omega)⟩
  obtain ⟨c, hc⟩ : ∃ c, as[done.length + 1]? = some c := ⟨_, List.getElem?_eq_getElem (by omega)⟩
  have hgb : (as.map Value.ref)[done.length]? = some (.ref b) := by rw [List.getElem?_map, hb]; rfl
  have hgc : (as.map Value.ref)[done.length + 1]? = some (.ref c) := by rw [List.getElem?_map, hc]; rfl
  have hrb : (done ++ (pre ++ x :: Rr) :: (low ++ [[]]))[done.length]? = some (pre ++ x :: Rr) := by simp
  have hrc : (done ++ (pre ++ x :: Rr) :: (low ++ [[]]))[done.length + 1]? = some (low.headD []) := by
    rw [List.getElem?_append_right (by omega)]; cases low <;> simp
  ((with_reducible refine e_cons ?_; refine e_assign ?_ (by kernel_rfl); refine r_sub ?_; refine v_bin ?_; refine r_slice ?_; refine r_sub ?_); (with_reducible refine lkp_name (v := ?v48) (by assumption) ?h48 ?_ (by kernel_rfl)); (case h48 => repeat (first | with_reducible exact lkp_here _ _ _ | with_reducible assumption | refine lkp_there (by kernel_rfl) ?_)); (with_reducible refine lkp_name (v := ?v49) (by assumption) ?h49 ?_ (by kernel_rfl)); (case h49 => repeat (first | with_reducible exact lkp_here _ _ _ | with_reducible assumption | refine lkp_there (by kernel_rfl) ?_)))
  refine cur (by assumption) ?_; intro F
  refine sub_list F.pins.1 (item_ls F.pins.1 epv (by omega) hgb ?_)
  ((with_reducible refine p_some ?_; refine v_bin ?_); (with_reducible refine lkp_name (v := ?v50) (by assumption) ?h50 ?_ (by kernel_rfl)); (case h50 => repeat (first | with_reducible exact lkp_here _ _ _ | with_reducible assumption | refine lkp_there (by kernel_rfl) ?_)); (with_reducible refine r_int (by assumption) ?_); intro _ _ _; (with_reducible refine o_add (by assumption) ?_); intro _ _ _; (with_reducible refine p_none ?_))
  refine cur (by assumption) ?_; intro F
  refine slice_from F (F.pins.2 _ _ _ hb hrb) (k := pre.length + 1) (by omega) (by unfold sizeLine; simp only [List.length_drop, List.length_map, List.length_append, List.length_cons, List.length_nil]; omega) ?_
  intro b1 s1 _ _ F
  ((with_reducible refine r_list ?_; refine i_cons ?_ (by kernel_rfl)); (with_reducible refine r_str (xs := ?x51) ?h51 (by assumption) ?_); (case h51 => exact sx6); intro _ _ _; (with_reducible refine i_nil ?_))
  refine ⟨by simp [sizeLine], _, _, _, _, _, by assumption, ?_⟩
  intro b2 s2 _ _ F
  skip
  refine add_strs F F.pins.2.1 ⟨[([57], _)], F.pins.1, rfl⟩ (by unfold sizeLine; simp only [List.length_drop, List.length_map, List.length_append, List.length_cons, List.length_nil]; omega) ?_
  intro b3 s3 _ _ F
  ((with_reducible refine r_int (by assumption) ?_); intro _ _ _)
  refine sub_strs (Fm.pins_fst (by assumption)) (k := 0) rfl (by decide) (beside_at _ _ _) ?_
  intro _
  refine cur (by assumption) ?_; intro F
  have F := F.weak (stb_grid _ offG offas) fun x => x.2.2.2
  ((with_reducible refine storeV (by assumption) ?_ (by kernel_rfl)); intro _ _; (with_reducible refine e_cons ?_; refine e_assign ?_ (by kernel_rfl); refine r_sub ?_; refine v_bin ?_; refine r_slice ?_; refine r_sub ?_); (with_reducible refine lkp_name (v := ?v52) (by assumption) ?h52 ?_ (by kernel_rfl)); (case h52 => repeat (first | with_reducible exact lkp_here _ _ _ | with_reducible assumption | refine lkp_there (by kernel_rfl) ?_)); (with_reducible refine v_bin ?_); (with_reducible refine lkp_name (v := ?v53) (by assumption) ?h53 ?_ (by kernel_rfl)); (case h53 => repeat (first | with_reducible exact lkp_here _ _ _ | with_reducible assumption | refine lkp_there (by kernel_rfl) ?_)); (with_reducible refine r_int (by assumption) ?_); intro _ _ _; (with_reducible refine o_add (by assumption) ?_); intro _ _ _)
  refine cur (by assumption) ?_; intro F
  refine sub_list F.pins.1 (item_ls F.pins.1 (by omega) (by omega) hgc ?_)
  ((with_reducible refine p_some ?_); (with_reducible refine lkp_name (v := ?v54) (by assumption) ?h54 ?_ (by kernel_rfl)); (case h54 => repeat (first | with_reducible exact lkp_here _ _ _ | with_reducible assumption | refine lkp_there (by kernel_rfl) ?_)); (with_reducible refine p_none ?_))
  refine cur (by assumption) ?_; intro F
  refine slice_from F (F.pins.2 _ _ _ hc hrc) (k := pre.length) (by omega) (by have := headD_le hlow; unfold sizeLine; simp only [List.length_drop, List.length_map, List.length_append, List.length_cons, List.length_nil]; omega) ?_
  intro b4 s4 _ _ F
  ((with_reducible refine r_list ?_; refine i_cons ?_ (by kernel_rfl)); (with_reducible refine r_str (xs := ?x55) ?h55 (by assumption) ?_); (case h55 => exact sx6); intro _ _ _; (with_reducible refine i_nil ?_))
  refine ⟨by simp [sizeLine], _, _, _, _, _, by assumption, ?_⟩
  intro b5 s5 _ _ F
  skip
  refine add_strs F F.pins.2.1 ⟨[([57], _)], F.pins.1, rfl⟩ (by have := headD_le hlow; unfold sizeLine; simp only [List.length_drop, List.length_map, List.length_append, List.length_cons, List.length_nil]; omega) ?_
  intro b6 s6 _ _ F
  ((with_reducible refine r_int (by assumption) ?_); intro _ _ _)
  refine sub_strs (Fm.pins_fst (by assumption)) (k := 0) rfl (by decide) (below_at _ _) ?_
  intro _
  refine cur (by assumption) ?_; intro F
  have F := F.weak (stb_grid _ offG offas) fun x => x.2.2.2
  ((with_reducible refine storeV (by assumption) ?_ (by kernel_rfl)); intro _ _; (with_reducible refine e_cons ?_; refine e_if ?_; refine t_bool ?_; refine t_and ?_; refine t_cmp ?_ (by kernel_rfl)); (with_reducible refine lkp_name (v := ?v56) (by assumption) ?h56 ?_ (by kernel_rfl)); (case h56 => repeat (first | with_reducible exact lkp_here _ _ _ | with_reducible assumption | refine lkp_there (by kernel_rfl) ?_)); (with_reducible refine r_str (xs := ?x57) ?h57 (by assumption) ?_); (case h57 => exact sx6); intro _ _ _; (with_reducible refine lt_one ?_; refine wpAny_truthy_bool ?_))
  have ehb : ((pre ++ x :: Rr).map fun c => [c]).length = pre.length + 1 + Rr.length := by simp; omega
  have hset : ∀ y : Nat, ((pre ++ x :: Rr).map fun c => [c]).set pre.length [y] = (pre ++ y :: Rr).map fun c => [c] := fun y => by simp [List.set_append]
  have hrow : ∀ r : List Nat, (done ++ (pre ++ x :: Rr) :: (low ++ [[]])).set done.length r = done ++ r :: (low ++ [[]]) := fun r => by simp [List.set_append]
  have hab := S.a0 b (List.mem_of_getElem? hb)
  generalize hβ : ((low.headD []).drop pre.length).headD 57 = β at *
  generalize hγ : Rr.headD 57 = γ at *
  have gset : ∀ (y : Nat) (s₁ : Shared) (t u : Tok) (l : List (Str × Value)) (Q : Unit → Shared → Prop), Fm w s true (fdL 21 "_law_filled" 214).scope env s₁ l (Grid G as (done ++ (pre ++ x :: Rr) :: (low ++ [[]]))) →
      (∀ s', Fm w s true (fdL 21 "_law_filled" 214).scope env s' l (Grid G as (done ++ (pre ++ y :: Rr) :: (low ++ [[]]))) → Q () s') → wpAny (MM w) A (setItem (.ref b) (.int hv t) (.str (tx [y]) u)) Q E' s₁ := fun y s₁ t u l Q F k => by
    refine set_strs F hab (F.pins.2 _ _ _ hb hrb) ehv (by rw [ehb]; omega) (by omega) (stb_grid _ offG offas) (fun h' hs' hx => ?_) k
    rw [hset] at hx
    have := grid_set F.pins hb S.Gn S.nd hs' hx
    rwa [hrow] at this
  have fin : ∀ (y : Nat) (s₁ : Shared) (hv' pv' : Int) (u1 u2 : Tok) (done' low' : List (List Nat)) (pre' Rr' : List Nat) (x' : Nat), Fm w s true (fdL 21 "_law_filled" 214).scope env s₁ [("moving", .bool true), ("hole", .int hv' u1), ("place", .int pv' u2), ("grid", .ref G)] (Grid G as (done ++ (pre ++ y :: Rr) :: (low ++ [[]]))) →
      done ++ (pre ++ y :: Rr) :: (low ++ [[]]) = done' ++ (pre' ++ x' :: Rr') :: (low' ++ [[]]) → hv' = pre'.length → pv' = done'.length → done'.length + 1 + low'.length = N → pre'.length + 1 + Rr'.length ≤ 1000 → (∀ r ∈ low', r.length ≤ 1000) → (∀ c ∈ Rr', c < 57) → (∀ r ∈ low', ∀ c ∈ r, c < 57) →
      done' ++ slide low' pre' Rr' = target → 1 + low'.length + (1000 - pre'.length) < n → KNx (FI w s env G as N target) n .next s₁ := fun y s₁ hv' pv' u1 u2 done' low' pre' Rr' x' F e a1 a2 a3 a4 a5 a6 a7 a8 a9 =>
    ⟨rfl, _, a9, true, hv', pv', u1, u2, done', low', pre', Rr', x', e ▸ F, a1, a2, a3, a4, a5, a6, a7, fun _ => ⟨a8, rfl⟩, (nomatch ·)⟩
  have side : ¬ (β < 57 ∧ β ≤ γ) → ∀ s₁ u1 u2 l, Fm w s true (fdL 21 "_law_filled" 214).scope env s₁ (("below", .str (tx [β]) u1) :: ("beside", .str (tx [γ]) u2) :: ("moving", .bool true) :: ("hole", .int hv t1) :: ("place", .int pv t2) :: ("grid", .ref G) :: l) (Grid G as (done ++ (pre ++ x :: Rr) :: (low ++ [[]]))) →
      wpAny (MM w) A (execs (orB ((whB ((fB (st 21)).getD 3 (.Pass default))).getD 2 (.Pass default))) env) (KThen w A env [] E' (KNx (FI w s env G as N target) n)) E' s₁ := by
    intro hno s₁ u1 u2 l F
    conv in orB _ => whnf
    ((with_reducible refine e_cons ?_; refine e_if ?_; refine t_cmp ?_ (by kernel_rfl)); (with_reducible refine lkp_name (v := ?v58) (by assumption) ?h58 ?_ (by kernel_rfl)); (case h58 => repeat (first | with_reducible exact lkp_here _ _ _ | with_reducible assumption | refine lkp_there (by kernel_rfl) ?_)); (with_reducible refine r_str (xs := ?x59) ?h59 (by assumption) ?_); (case h59 => exact sx6); intro _ _ _; (with_reducible refine lt_one ?_; refine wpAny_truthy_bool ?_))
    by_cases h3 : γ < 57
    · refine if_t (by simpa using h3) ?_
      obtain ⟨R', rfl⟩ : ∃ R', Rr = γ :: R' := by
        cases Rr with
        | nil => simp at hγ; omega
        | cons c R' => simp at hγ; subst hγ; exact ⟨R', rfl⟩
      ((with_reducible refine e_cons ?_; refine e_set ?_ (by kernel_rfl)); (with_reducible refine lkp_name (v := ?v60) (by assumption) ?h60 ?_ (by kernel_rfl)); (case h60 => repeat (first | with_reducible exact lkp_here _ _ _ | with_reducible assumption | refine lkp_there (by kernel_rfl) ?_)); (with_reducible refine r_sub ?_); (with_reducible refine lkp_name (v := ?v61) (by assumption) ?h61 ?_ (by kernel_rfl)); (case h61 => repeat (first | with_reducible exact lkp_here _ _ _ | with_reducible assumption | refine lkp_there (by kernel_rfl) ?_)); (with_reducible refine lkp_name (v := ?v62) (by assumption) ?h62 ?_ (by kernel_rfl)); (case h62 => repeat (first | with_reducible exact lkp_here _ _ _ | with_reducible assumption | refine lkp_there (by kernel_rfl) ?_)))
      refine cur (by assumption) ?_; intro F
      refine sub_list F.pins.1 (item_ls F.pins.1 epv (by omega) hgb ?_)
      ((with_reducible refine lkp_name (v := ?v63) (by assumption) ?h63 ?_ (by kernel_rfl)); (case h63 => repeat (first | with_reducible exact lkp_here _ _ _ | with_reducible assumption | refine lkp_there (by kernel_rfl) ?_)))
      refine gset γ _ _ _ _ _ (by assumption) ?_
      intro s7 F
      ((with_reducible refine e_cons ?_; refine e_assign ?_ (by kernel_rfl); refine v_bin ?_); (with_reducible refine lkp_name (v := ?v64) (by assumption) ?h64 ?_ (by kernel_rfl)); (case h64 => repeat (first | with_reducible exact lkp_here _ _ _ | with_reducible assumption | refine lkp_there (by kernel_rfl) ?_)); (with_reducible refine r_int (by assumption) ?_); intro _ _ _; (with_reducible refine o_add (by assumption) ?_); intro _ _ _; (with_reducible refine storeV (by assumption) ?_ (by kernel_rfl)); intro _ _; (with_reducible refine e_nil ?_; refine e_nil ?_; refine e_nil ?_))
      refine cur (by assumption) ?_; intro F
      refine fin γ _ _ _ _ _ done low (pre ++ [γ]) R' γ (F.sub (by (repeat (first | (with_reducible exact Subs.nil) | (refine Subs.cons ?hk ?_; (case hk => ((repeat (first | (with_reducible exact lkp_here _ _ _) | (with_reducible assumption) | refine lkp_there (by kernel_rfl) ?_))))))))) ?_ ?_ epv hN ?_ hlow ?_ hlowd ?_ ?_
      · simp
      · simp; omega
      · simp at hM ⊢; omega
      · exact fun c hc => hRd c (List.mem_cons_of_mem _ hc)
      · rw [← ht1]
        congr 1
        exact (slide_right_eq (by rw [hβ]; exact hno)).symm
      · simp at hn1 hM ⊢; omega
    · refine if_f (by simpa using h3) ?_
      have hR0 : Rr = [] := by
        cases Rr with
        | nil => rfl
        | cons c R' => simp at hγ; subst hγ; exact absurd (hRd c (List.mem_cons_self ..)) h3
      subst hR0
      ((with_reducible refine e_cons ?_; refine e_assign ?_ (by kernel_rfl); refine wpAny_Constant_bool ?_); (with_reducible refine storeV (by assumption) ?_ (by kernel_rfl)); intro _ _; (with_reducible refine e_nil ?_; refine e_nil ?_; refine e_nil ?_))
      refine cur (by assumption) ?_; intro F
      refine ⟨rfl, 0, by omega, false, _, _, _, _, done, low, pre, [], x, F.sub (by (repeat (first | (with_reducible exact Subs.nil) | (refine Subs.cons ?hk ?_; (case hk => ((repeat (first | (with_reducible exact lkp_here _ _ _) | (with_reducible assumption) | refine lkp_there (by kernel_rfl) ?_)))))))), ehv, epv, hN, hM, hlow, hRd, hlowd, (nomatch ·), fun _ => ⟨?_, rfl⟩⟩
      rw [← ht1, slide_end_eq]
      rw [hβ]
      simp at hγ
      omega
  skip
  by_cases h1 : β < 57
  · refine and_t (by simpa using h1) ?_
    ((with_reducible refine t_and ?_; refine t_cmp ?_ (by kernel_rfl)); (with_reducible refine lkp_name (v := ?v65) (by assumption) ?h65 ?_ (by kernel_rfl)); (case h65 => repeat (first | with_reducible exact lkp_here _ _ _ | with_reducible assumption | refine lkp_there (by kernel_rfl) ?_)); (with_reducible refine lkp_name (v := ?v66) (by assumption) ?h66 ?_ (by kernel_rfl)); (case h66 => repeat (first | with_reducible exact lkp_here _ _ _ | with_reducible assumption | refine lkp_there (by kernel_rfl) ?_)); (with_reducible refine le_one ?_; refine wpAny_truthy_bool ?_))
    by_cases h2 : β ≤ γ
    · refine and_t (by simpa using h2) ?_
      ((with_reducible refine and_nil ?_))
      refine if_t rfl ?_
      ((with_reducible refine e_cons ?_; refine e_set ?_ (by kernel_rfl)); (with_reducible refine lkp_name (v := ?v67) (by assumption) ?h67 ?_ (by kernel_rfl)); (case h67 => repeat (first | with_reducible exact lkp_here _ _ _ | with_reducible assumption | refine lkp_there (by kernel_rfl) ?_)); (with_reducible refine r_sub ?_); (with_reducible refine lkp_name (v := ?v68) (by assumption) ?h68 ?_ (by kernel_rfl)); (case h68 => repeat (first | with_reducible exact lkp_here _ _ _ | with_reducible assumption | refine lkp_there (by kernel_rfl) ?_)); (with_reducible refine lkp_name (v := ?v69) (by assumption) ?h69 ?_ (by kernel_rfl)); (case h69 => repeat (first | with_reducible exact lkp_here _ _ _ | with_reducible assumption | refine lkp_there (by kernel_rfl) ?_)))
      refine cur (by assumption) ?_; intro F
      refine sub_list F.pins.1 (item_ls F.pins.1 epv (by omega) hgb ?_)
      ((with_reducible refine lkp_name (v := ?v70) (by assumption) ?h70 ?_ (by kernel_rfl)); (case h70 => repeat (first | with_reducible exact lkp_here _ _ _ | with_reducible assumption | refine lkp_there (by kernel_rfl) ?_)))
      refine gset β _ _ _ _ _ (by assumption) ?_
      intro s7 F
      ((with_reducible refine e_cons ?_; refine e_assign ?_ (by kernel_rfl); refine v_bin ?_); (with_reducible refine lkp_name (v := ?v71) (by assumption) ?h71 ?_ (by kernel_rfl)); (case h71 => repeat (first | with_reducible exact lkp_here _ _ _ | with_reducible assumption | refine lkp_there (by kernel_rfl) ?_)); (with_reducible refine r_int (by assumption) ?_); intro _ _ _; (with_reducible refine o_add (by assumption) ?_); intro _ _ _; (with_reducible refine storeV (by assumption) ?_ (by kernel_rfl)); intro _ _; (with_reducible refine e_nil ?_; refine e_nil ?_))
      obtain ⟨q, low', rfl⟩ : ∃ q low', low = q :: low' := by
        cases low with
        | nil => simp at hβ; omega
        | cons q low' => exact ⟨q, low', rfl⟩
      have hq : q = q.take pre.length ++ β :: q.drop (pre.length + 1) := split_q hβ (by omega)
      have hql : (q.take pre.length).length = pre.length := by
        have := congrArg List.length hq; simp at this; rw [List.length_take]; omega
      have hq1000 := hlow q (List.mem_cons_self ..)
      have hqd := hlowd q (List.mem_cons_self ..)
      refine cur (by assumption) ?_; intro F
      refine fin β _ _ _ _ _ (done ++ [pre ++ β :: Rr]) low' (q.take pre.length) (q.drop (pre.length + 1)) β (F.sub (by (repeat (first | (with_reducible exact Subs.nil) | (refine Subs.cons ?hk ?_; (case hk => ((repeat (first | (with_reducible exact lkp_here _ _ _) | (with_reducible assumption) | refine lkp_there (by kernel_rfl) ?_))))))))) ?_ ?_ ?_ ?_ ?_ ?_ ?_ ?_ ?_ ?_
      · rw [← hq]; simp
      · rw [hql]; exact ehv
      · simp; omega
      · simp at hN ⊢; omega
      · rw [hql, List.length_drop]
        have := congrArg List.length hq; rw [List.length_append, hql, List.length_cons, List.length_drop] at this; omega
      · exact fun r hr => hlow r (List.mem_cons_of_mem _ hr)
      · exact fun c hc => hqd c (List.mem_of_mem_drop hc)
      · exact fun r hr => hlowd r (List.mem_cons_of_mem _ hr)
      · rw [← ht1, List.append_assoc]
        have := slide_down_eq (l := q) (low := low') (pre := pre) (R := Rr) (by rw [show (q.drop pre.length).headD 57 = β from hβ, hγ]; exact ⟨h1, h2⟩)
        rw [this, show (q.drop pre.length).headD 57 = β from hβ]; rfl
      · rw [hql]; simp at hn1; omega
    · refine and_f (by simpa using h2) ?_
      refine if_f rfl ?_
      exact side (fun h => h2 h.2) _ _ _ _ (by assumption)
  · refine and_f (by simpa using h1) ?_
    refine if_f rfl ?_
    exact side (fun h => h1 h.1) _ _ _ _ (by assumption)
theorem grid_put {G : Addr} {as : List Addr} {rows : List (List Nat)} {h h' : Heap} {k : Nat} {nb : Addr} {r : List Nat} (x : Grid G as rows h) (hG : G ∉ as) (hk : k < as.length) (hs : Heap.SameBut G h h') (hn : nb ≠ G) (y : Strs nb (r.map ([·])) h) (z : Ls G ((as.map Value.ref).set k (.ref nb)) h') :
    Grid G (as.set k nb) (rows.set k r) h' := by
  refine ⟨by rw [List.map_set]; exact z, fun i a q ha hq => ?_⟩
  by_cases hik : i = k
  · subst hik
    rw [List.getElem?_set_self hk] at ha; cases ha
    have hlt := (List.getElem?_eq_some_iff.mp hq).1
    rw [List.getElem?_set_self (by simpa using hlt)] at hq; cases hq
    exact y.at fun o e _ => hs.extBut _ _ hn e
  · rw [List.getElem?_set_ne (Ne.symm hik)] at ha hq
    exact (x.2 i a q ha hq).at fun o e _ => hs.extBut _ _ (fun e' => hG (e' ▸ List.mem_of_getElem? ha)) e
theorem flat_one (r : List Nat) : (r.map ([·])).flatten = r := by
  induction r with
  | nil => rfl
  | cons a r ih => simp at ih ⊢; exact ih
theorem getD_range (xs : List (List Nat)) : (List.range xs.length).map (fun i => xs.getD i []) = xs := by
  apply List.ext_getElem
  · simp
  · intro i h1 h2
    simp at h1
    simp [h1]
theorem filled_tail {w : World} {A : Around} {E : Value → Shared → Prop} {s s₀ : Shared} {env : Env} {G : Addr} {as : List Addr} {N : Nat} {target : List (List Nat)} {hv pv : Int} {t1 t2 : Tok} {done low : List (List Nat)} {pre Rr : List Nat} {x : Nat} {mv : Bool} {Q : Value → Shared → Prop}
    (S : FS G as s env N) (hN4 : N ≤ 4) (hh : A.handled = none) (F : Fm w s true (fdL 21 "_law_filled" 214).scope env s₀ [("moving", .bool mv), ("hole", .int hv t1), ("place", .int pv t2), ("grid", .ref G)] (Grid G as (done ++ (pre ++ x :: Rr) :: (low ++ [[]]))))
    (epv : pv = done.length) (hN : done.length + 1 + low.length = N) (hM : pre.length + 1 + Rr.length ≤ 1000) (hlow : ∀ r ∈ target, r.length ≤ 1000)
    (ht1 : done ++ pre :: low = target) (hR : Rr = []) (h : ∀ b s', Strs b target s'.heap → Gw s s' → Q (.ref b) s') :
    wpAny (MM w) A (execs ((fB (st 21)).drop 4) env) (KRet Q) E s₀ := by
  subst hR
  conv in List.drop _ _ => whnf
  have hal := S.len
  have offG := S.Goff
  have offas := S.aoff
  obtain ⟨b, hb⟩ : ∃ b, as[done.length]? = some b := ⟨_, List.getElem?_eq_getElem (by omega)⟩
  have hgb : (as.map Value.ref)[done.length]? = some (.ref b) := by rw [List.getElem?_map, hb]; rfl
  have hrb : (done ++ (pre ++ [x]) :: (low ++ [[]]))[done.length]? = some (pre ++ [x]) := by simp
  ((with_reducible refine e_cons ?_; refine e_set ?_ (by kernel_rfl); refine r_slice ?_; refine r_sub ?_); (with_reducible refine lkp_name (v := ?v72) (by assumption) ?h72 ?_ (by kernel_rfl)); (case h72 => repeat (first | with_reducible exact lkp_here _ _ _ | with_reducible assumption | refine lkp_there (by kernel_rfl) ?_)); (with_reducible refine lkp_name (v := ?v73) (by assumption) ?h73 ?_ (by kernel_rfl)); (case h73 => repeat (first | with_reducible exact lkp_here _ _ _ | with_reducible assumption | refine lkp_there (by kernel_rfl) ?_)))
  refine sub_list F.pins.1 (item_ls F.pins.1 epv (by omega) hgb ?_)
  ((with_reducible refine p_none ?_; refine p_some ?_; refine v_neg ?_); (with_reducible refine r_int (by assumption) ?_); intro _ _ _; (with_reducible refine u_neg (by assumption) ?_); intro _ _ _)
  refine cur (by assumption) ?_; intro F
  have hGlt := F.pins.1.lt
  refine slice_init F (F.pins.2 _ _ _ hb hrb) (by unfold sizeLine; simp; omega) ?_
  intro nb s1 hnb offn F
  ((with_reducible refine lkp_name (v := ?v74) (by assumption) ?h74 ?_ (by kernel_rfl)); (case h74 => repeat (first | with_reducible exact lkp_here _ _ _ | with_reducible assumption | refine lkp_there (by kernel_rfl) ?_)); (with_reducible refine lkp_name (v := ?v75) (by assumption) ?h75 ?_ (by kernel_rfl)); (case h75 => repeat (first | with_reducible exact lkp_here _ _ _ | with_reducible assumption | refine lkp_there (by kernel_rfl) ?_)))
  refine cur (by assumption) ?_; intro F
  have hd : ((pre ++ [x]).map fun c => [c]).dropLast = pre.map fun c => [c] := by simp
  rw [hd] at F
  have hnG : nb ≠ G := fun e => absurd hGlt (Nat.not_lt.mpr (e ▸ hnb))
  refine set_ls (P' := Grid G (as.set done.length nb) (done ++ pre :: (low ++ [[]]))) F S.G0 F.pins.2.1 epv (by simp; omega) (by omega) (stb_grid _ offG fun a ha => ?_) (fun h' hs' hx => ?_) ?_
  · rcases List.mem_or_eq_of_mem_set ha with ha | rfl
    · exact offas a ha
    · exact offn
  · have := grid_put F.pins.2 S.Gn (show done.length < as.length by omega) hs' hnG F.pins.1 hx
    rwa [show (done ++ (pre ++ [x]) :: (low ++ [[]])).set done.length pre = done ++ pre :: (low ++ [[]]) by simp [List.set_append]] at this
  intro s2 F
  generalize has' : as.set done.length nb = as' at F
  have hal' : as'.length = N + 1 := by rw [← has']; simp [hal]
  have htl : target.length = N := by rw [← ht1]; simp; omega
  rw [show done ++ pre :: (low ++ [[]]) = target ++ [[]] by rw [← ht1]; simp] at F
  ((with_reducible refine e_cons ?_; refine e_ret ?_))
  refine comp_rule [] [] (by assumption) ?_ rfl (by kernel_rfl) (by intro _; rfl)
  ((with_reducible refine r_slice ?_); (with_reducible refine lkp_name (v := ?v76) (by assumption) ?h76 ?_ (by kernel_rfl)); (case h76 => repeat (first | with_reducible exact lkp_here _ _ _ | with_reducible assumption | refine lkp_there (by kernel_rfl) ?_)); (with_reducible refine p_none ?_; refine p_some ?_; refine v_neg ?_); (with_reducible refine r_int (by assumption) ?_); intro _ _ _; (with_reducible refine u_neg (by assumption) ?_); intro _ _ _)
  refine cur (by assumption) ?_; intro F
  refine slice_ls (vs' := (as'.map Value.ref).dropLast) F F.pins.1 .none (.int (-1) _) (by unfold sizeLine; simp; omega) (by rw [show (some (-1 : Int)) = some (-((1 : Nat) : Int)) from rfl, slicePick_butLast _ 1 (Nat.le_refl _)]; simp [List.dropLast_eq_take]) ?_
  intro sl s3 _ _ F
  refine ⟨_, _, _, _, fun _ => true, fun i y => ∃ t, y = .str (tx (target.getD i [])) t, F, by (repeat (first | (with_reducible exact Subs.nil) | (refine Subs.cons ?hk ?_; (case hk => ((repeat (first | (with_reducible exact lkp_here _ _ _) | (with_reducible assumption) | refine lkp_there (by kernel_rfl) ?_))))))), iter_ls hh F.pins.1, by unfold sizeLine; simp; omega, ?_, ?_⟩
  · intro cenv i v s4 E' hi hv g4 F4
    have hi' : i < N := by simp at hi; omega
    obtain ⟨a, ha⟩ : ∃ a, as'[i]? = some a := ⟨_, List.getElem?_eq_getElem (by omega)⟩
    obtain ⟨r, hr⟩ : ∃ r, target[i]? = some r := ⟨_, List.getElem?_eq_getElem (by omega)⟩
    have hva : v = .ref a := by
      rw [List.dropLast_eq_take, List.getElem?_take_of_lt (by simp; omega), List.getElem?_map, ha] at hv
      exact (Option.some.inj hv).symm
    subst hva
    have hS := F.pins.2.2 i a r ha (by rw [List.getElem?_append_left (by omega)]; exact hr)
    refine tests_nil ⟨rfl, by ((refine ⟨_, by assumption, ?_⟩; intro h; first | exact h | exact h.2 | exact h.2.2 | exact h.2.2.2 | exact h.2.2.2.2)), fun _ => ?_⟩
    ((with_reducible refine r_meth (pl := ?p77) ?_ ?e77); (case e77 => exact rfl); (with_reducible refine r_str (xs := ?x78) ?h78 (by assumption) ?_); (case h78 => exact sx0); intro _ _ _; (with_reducible refine GM.join ?_; refine cw_builtin ?_ (by kernel_rfl) (by kernel_rfl); refine i_cons ?_ (by kernel_rfl)); (with_reducible refine lkp_name (v := ?v79) (by assumption) ?h79 ?_ (by kernel_rfl)); (case h79 => repeat (first | with_reducible exact lkp_here _ _ _ | with_reducible assumption | refine lkp_there (by kernel_rfl) ?_)); (with_reducible refine i_nil ?_))
    refine join_tx (by assumption) (hS.gw (Fm.gw (by assumption))) (by rw [flat_one]; have := hlow r (List.mem_of_getElem? hr); unfold sizeLine; omega) ?_
    rw [flat_one]
    intro _ _ _
    exact ⟨⟨_, by rw [List.getD_eq_getElem?_getD, hr]; rfl⟩, by ((refine ⟨_, by assumption, ?_⟩; intro h; first | exact h | exact h.2 | exact h.2.2 | exact h.2.2.2 | exact h.2.2.2.2))⟩
  · intro D ys s' hD hp F
    rw [filt_true] at hp
    skip
    have := F.pins.1.strs hp
    rw [show (as'.map Value.ref).dropLast.length = target.length by simp; omega, getD_range] at this
    exact h _ _ this F.gw
theorem fn_filled (P : Params) : fnOk P 215 (fdL 21 "_law_filled" 214) := ⟨by decide, by kernel_rfl⟩
theorem filled_spec {w : World} {A : Around} {E : Value → Shared → Prop} {s : Shared} {a : Addr} {xs : List (List Nat)} {p d : Nat} {u : List Nat} {t : Tok} {Q : Value → Shared → Prop} (W : Wd w s.heap) (R : Rm A 2)
    (hs : Strs a xs s.heap) (hx : xs.length ≤ 4) (hlen : ∀ r ∈ xs, r.length ≤ 1000) (hdig : ∀ r ∈ xs, ∀ c ∈ r, c < 57) (hp : xs[p]? = some (List.replicate (d + 1) 46 ++ u)) (hu : ∀ c ∈ u, c ≠ 46)
    (htl : ∀ r ∈ xs.take p ++ slide (xs.drop (p + 1)) (List.replicate d 46) u, r.length ≤ 1000) (h : ∀ b s', Strs b (xs.take p ++ slide (xs.drop (p + 1)) (List.replicate d 46) u) s'.heap → Gw s s' → Q (.ref b) s') : wpAny (MM w) A (call (.ref 215) [.ref a, .int p t]) Q E s := by
  refine callF (body := fB (st 21)) (binds := [("rows", .ref a), ("place", .int p t)]) ["rows", "place"] W R.lim (fn_filled _) (by kernel_rfl) (by kernel_rfl) (by kernel_rfl) (by kernel_rfl) (by kernel_rfl) rfl (by decide +kernel) (by decide +kernel) (by kernel_rfl) ⟨rfl, rfl⟩ ?_
  intro s₁ env henv F
  have F1 := F
  have hh : (A.deeper env).handled = none := (R.deeper env).handled
  conv in fB _ => whnf
  ((with_reducible refine e_cons ?_; refine e_assign ?_ (by kernel_rfl); refine v_bin ?_))
  refine comp_ruleN [] [] (by assumption) ?_ rfl (by kernel_rfl) (by intro _; rfl)
  ((with_reducible refine lkp_name (v := ?v80) (by assumption) ?h80 ?_ (by kernel_rfl)); (case h80 => repeat (first | with_reducible exact lkp_here _ _ _ | with_reducible assumption | refine lkp_there (by kernel_rfl) ?_)))
  refine ⟨_, _, xs.length, _, fun _ => true, true, fun i y h => ∃ b, y = .ref b ∧ Strs b ((xs.getD i []).map ([·])) h, ?_, ?_, F, by (repeat (first | (with_reducible exact Subs.nil) | (refine Subs.cons ?hk ?_; (case hk => ((repeat (first | (with_reducible exact lkp_here _ _ _) | (with_reducible assumption) | refine lkp_there (by kernel_rfl) ?_))))))), iter_strs hh (hs.gw F.gw), by simp [sizeLine]; omega, ?_, ?_⟩
  · rintro i y h h' k ⟨b, rfl, x⟩
    exact ⟨b, rfl, x.at fun o e _ => k b o rfl rfl e⟩
  · rintro _ i y h T ⟨b, rfl, ts, ⟨o, e, c, n, dd⟩, _⟩ hT
    cases hT; exact ⟨o, e, sq_seq c dd⟩
  · intro cenv i x s₃ E' hi hx' g₃ F₃
    obtain ⟨x, t, hx', rfl⟩ := hx'
    refine tests_nil ⟨rfl, by ((refine ⟨_, by assumption, ?_⟩; intro h; first | exact h | exact h.2 | exact h.2.2 | exact h.2.2.2 | exact h.2.2.2.2)), fun _ => ?_⟩
    ((with_reducible refine r_call ?_); (with_reducible refine name_boot (v := ?v81) (by assumption) ?h81 ?_ (by kernel_rfl) (by kernel_rfl)); (case h81 => exact bt_list); (with_reducible refine cw_type ?_ (by kernel_rfl) (by kernel_rfl); refine i_cons ?_ (by kernel_rfl)); (with_reducible refine lkp_name (v := ?v82) (by assumption) ?h82 ?_ (by kernel_rfl)); (case h82 => repeat (first | with_reducible exact lkp_here _ _ _ | with_reducible assumption | refine lkp_there (by kernel_rfl) ?_)); (with_reducible refine i_nil ?_))
    refine list_tx hh (by assumption) (Nat.le_trans (hlen x (List.mem_of_getElem? hx')) (by decide)) ?_
    intro s₅ F₅ hS
    have e : xs.getD i [] = x := by rw [List.getD_eq_getElem?_getD, hx']; rfl
    refine ⟨⟨⟨_, rfl, by rw [e]; exact hS⟩, fun _ T hT => by cases hT; exact Nat.le_refl _⟩, by ((refine ⟨_, by assumption, ?_⟩; intro h; first | exact h | exact h.2 | exact h.2.2 | exact h.2.2.2 | exact h.2.2.2.2))⟩
  · intro D ys s' hD hpr hfr F₂
    have F := F₂.lsOf F.stb
    have F' := F
    rw [filt_true] at hpr
    obtain ⟨bs, rfl, hbl, hra⟩ := rowsAt_of hpr
    obtain ⟨hpw, hgt⟩ := hfr rfl
    have hbs : ∀ b ∈ bs, s₁.heap.objs.size ≤ b ∧ b < s'.heap.objs.size := fun b hb => ⟨Nat.le_trans hD (Nat.le_of_lt (hgt _ (List.mem_map.mpr ⟨b, hb, rfl⟩) b rfl)), by
      obtain ⟨k, hk, e⟩ := List.getElem_of_mem hb
      exact (hra k b xs[k] (by rw [List.getElem?_eq_getElem hk, e]) (List.getElem?_eq_getElem (by omega))).lt⟩
    have hnd : bs.Nodup := by
      have := List.pairwise_map.mp hpw
      exact this.imp fun {a b} h e => h a rfl (by rw [e])
    have offb : ∀ b ∈ bs, offE env b := fun b hb => by
      obtain ⟨k, hk, e⟩ := List.getElem_of_mem hb
      exact (hra k b xs[k] (by rw [List.getElem?_eq_getElem hk, e]) (List.getElem?_eq_getElem (by omega))).off F
    have F := F.pin (stb_rows xs offb) hra
    ((with_reducible refine r_list ?_; refine i_cons ?_ (by kernel_rfl); refine r_list ?_; refine i_nil ?_))
    refine ⟨by simp [sizeLine], _, _, _, _, _, by assumption, ?_⟩
    intro le s₂ hle offe F
    ((with_reducible refine i_nil ?_))
    refine ⟨by simp [sizeLine], _, _, _, _, _, by assumption, ?_⟩
    intro lo s₃ hlo offo F
    skip
    have hle3 : le < s₃.heap.objs.size := F.pins.2.1.lt
    have hb3 : ∀ b ∈ bs ++ [le], b < s₃.heap.objs.size := fun b hb => by
      rcases List.mem_append.mp hb with hb | hb
      · exact Nat.lt_of_lt_of_le (hbs b hb).2 (Nat.le_trans hle (Nat.le_of_lt hle3))
      · simp at hb; subst hb; exact hle3
    have hs0 : s.heap.objs.size ≤ s'.heap.objs.size := F'.gw.size
    have hg0 : ∀ b ∈ bs ++ [le], s.heap.objs.size ≤ b := fun b hb => by
      rcases List.mem_append.mp hb with hb | hb
      · exact Nat.le_trans F1.gw.size (hbs b hb).1
      · simp at hb; subst hb; exact Nat.le_trans hs0 hle
    have hnd2 : (bs ++ [le]).Nodup := by
      refine List.nodup_append.mpr ⟨hnd, by simp, fun a ha b hb e => ?_⟩
      simp at hb; subst hb; subst e
      exact absurd (hbs a ha).2 (Nat.not_lt.mpr hle)
    refine add_ls F F.pins.2.2.2.1 F.pins.1 (by simp [sizeLine]; omega) ?_
    intro G s₄ hGs offG F
    have hGn : G ∉ bs ++ [le] := fun hm => absurd (hb3 G hm) (Nat.not_lt.mpr hGs)
    have hG0 : s.heap.objs.size ≤ G := by
      have := hg0 le (by simp); omega
    have offas : ∀ b ∈ bs ++ [le], offE env b := fun b hb => by
      rcases List.mem_append.mp hb with hb | hb
      · exact offb b hb
      · simp at hb; subst hb; exact offe
    have F := F.weak (R := Grid G (bs ++ [le]) (xs ++ [[]])) (stb_grid _ offG offas) fun x => ⟨by simpa using x.1, x.2.2.2.1.snoc hbl ⟨[], x.2.2.1, rfl⟩⟩
    have hal : (bs ++ [le]).length = xs.length + 1 := by simp [hbl]
    generalize bs ++ [le] = as at *
    clear hpr hpw hgt hbs hnd offb hra hb3
    ((with_reducible refine storeV (by assumption) ?_ (by kernel_rfl)); intro _ _; (with_reducible refine e_cons ?_; refine e_assign ?_ (by kernel_rfl); refine v_bin ?_); (with_reducible refine r_meth (pl := ?p83) ?_ ?e83); (case e83 => exact rfl); (with_reducible refine r_sub ?_); (with_reducible refine lkp_name (v := ?v84) (by assumption) ?h84 ?_ (by kernel_rfl)); (case h84 => repeat (first | with_reducible exact lkp_here _ _ _ | with_reducible assumption | refine lkp_there (by kernel_rfl) ?_)); (with_reducible refine lkp_name (v := ?v85) (by assumption) ?h85 ?_ (by kernel_rfl)); (case h85 => repeat (first | with_reducible exact lkp_here _ _ _ | with_reducible assumption | refine lkp_there (by kernel_rfl) ?_)))
    refine sub_strs (hs.gw (Fm.gw (by assumption))) rfl (by have := (List.getElem?_eq_some_iff.mp hp).1; omega) hp ?_; intro _
    ((with_reducible refine GM.count ?_; refine cw_builtin ?_ (by kernel_rfl) (by kernel_rfl); refine i_cons ?_ (by kernel_rfl)); (with_reducible refine r_str (xs := ?x86) ?h86 (by assumption) ?_); (case h86 => exact sx1); intro _ _ _; (with_reducible refine i_nil ?_))
    refine count_tx (by assumption) ?_; intro _ _ _
    rw [dts_row d hu]
    ((with_reducible refine r_int (by assumption) ?_); intro _ _ _; (with_reducible refine o_sub (by assumption) ?_); intro _ _ _; (with_reducible refine storeV (by assumption) ?_ (by kernel_rfl)); intro _ _; (with_reducible refine e_cons ?_; refine e_assign ?_ (by kernel_rfl); refine wpAny_Constant_bool ?_); (with_reducible refine storeV (by assumption) ?_ (by kernel_rfl)); intro _ _; (with_reducible refine e_cons ?_))
    have hpx := (List.getElem?_eq_some_iff.mp hp).1
    generalize htg : xs.take p ++ slide (xs.drop (p + 1)) (List.replicate d 46) u = target at h htl
    refine e_while (FI w s env G as xs.length target)
      (1 + (xs.drop (p + 1)).length + (1000 - (List.replicate d 46).length)) ?_ ?_
    · have hrow := hlen _ (List.mem_of_getElem? hp)
      have hdg := hdig _ (List.mem_of_getElem? hp)
      rw [List.length_append, List.length_replicate] at hrow
      refine ⟨true, _, _, _, _, xs.take p, xs.drop (p + 1), List.replicate d 46, u, 46, (Fm.sub (by assumption) (l' := [("moving", .bool true), ("hole", .int _ _), ("place", .int _ _), ("grid", .ref G)]) (by (repeat (first | (with_reducible exact Subs.nil) | (refine Subs.cons ?hk ?_; (case hk => ((repeat (first | (with_reducible exact lkp_here _ _ _) | (with_reducible assumption) | refine lkp_there (by kernel_rfl) ?_))))))))).weak (stb_grid _ offG offas) ?_, ?_, ?_, ?_, ?_, ?_, ?_, ?_, fun _ => ⟨htg, rfl⟩, (nomatch ·)⟩
      · rw [split_row hp]; exact id
      · simp
      · rw [List.length_take]; omega
      · rw [List.length_take, List.length_drop]; omega
      · rw [List.length_replicate]; omega
      · exact fun r hr => hlen r (List.mem_of_mem_drop hr)
      · exact fun c hc => hdg c (List.mem_append_right _ hc)
      · exact fun r hr => hdig r (List.mem_of_mem_drop hr)
    · rintro n s₀ E' ⟨mv, hv, pv, t1, t2, done, low, pre, Rr, x, F, ehv, epv, hN, hM, hlow, hRd, hlowd, hmt, hmf⟩
      ((with_reducible refine t_name ?_); (with_reducible refine lkp_name (v := ?v87) (by assumption) ?h87 ?_ (by kernel_rfl)); (case h87 => repeat (first | with_reducible exact lkp_here _ _ _ | with_reducible assumption | refine lkp_there (by kernel_rfl) ?_)); (with_reducible refine wpAny_truthy_bool ?_))
      have S : FS G as s env xs.length := ⟨hG0, offG, hGn, hg0, offas, hnd2, hal⟩
      cases mv with
      | false =>
        obtain ⟨ht, hR⟩ := hmf rfl
        exact wh_f rfl (filled_tail S hx hh F epv hN hM htl ht hR h)
      | true => exact wh_t rfl (filled_body S hx F ehv epv hN hM hlow hRd hlowd (hmt rfl).1 (hmt rfl).2)
/-! ## quotedata, _law_sent -/
noncomputable def fdQ : FuncData := fdT (st 6) "quotedata" "quotedata" [] .none (.str "cpy313.smtplib" 289) (.ref 54) .none
theorem fn_quote (P : Params) : fnOk P 55 fdQ := ⟨by decide, by kernel_rfl⟩
theorem quote_spec {w : World} {A : Around} {E : Value → Shared → Prop} {s : Shared} {x : List Nat} {t : Tok} {Q : Value → Shared → Prop} (W : Wd w s.heap) (R : Rm A 2)
    (hx : x.length ≤ 20000) (h : ∀ t' s', Gw s s' → Q (.str (tx (dd true (nl false x))) t') s') : wpAny (MM w) A (call (.ref 55) [.str (tx x) t]) Q E s := by
  refine callF (body := fB (st 6)) (binds := [("data", .str (tx x) t)]) ["data"] W R.lim (fn_quote _) (by kernel_rfl) (by kernel_rfl) (by kernel_rfl) (by kernel_rfl) (by kernel_rfl) rfl (by decide +kernel) (by decide +kernel) (by kernel_rfl) ⟨rfl, rfl⟩ ?_
  intro s₁ env henv F
  conv in fB _ => whnf
  ((with_reducible refine e_cons ?_; refine e_ret ?_); (with_reducible refine r_meth (pl := ?p88) ?_ ?e88); (case e88 => exact rfl); (with_reducible refine name_glob (v := ?v89) (by assumption) ?h89 ?_ (by kernel_rfl)); (case h89 => exact gl_twin_re_1 _))
  refine gm_sub (Fm.Wd (by assumption)).pat1 ?_
  ((with_reducible refine cw_builtin ?_ (by kernel_rfl) (by kernel_rfl); refine i_cons ?_ (by kernel_rfl)); (with_reducible refine r_str (xs := ?x90) ?h90 (by assumption) ?_); (case h90 => exact sx17); intro _ _ _; (with_reducible refine i_cons ?_ (by kernel_rfl)); (with_reducible refine r_meth (pl := ?p91) ?_ ?e91); (case e91 => exact rfl); (with_reducible refine name_glob (v := ?v92) (by assumption) ?h92 ?_ (by kernel_rfl)); (case h92 => exact gl_twin_re_2 _))
  refine gm_sub (Fm.Wd (by assumption)).pat2 ?_
  ((with_reducible refine cw_builtin ?_ (by kernel_rfl) (by kernel_rfl); refine i_cons ?_ (by kernel_rfl)); (with_reducible refine name_glob (v := ?v93) (by assumption) ?h93 ?_ (by kernel_rfl)); (case h93 => exact gl_CRLF _); (with_reducible refine i_cons ?_ (by kernel_rfl)); (with_reducible refine lkp_name (v := ?v94) (by assumption) ?h94 ?_ (by kernel_rfl)); (case h94 => repeat (first | with_reducible exact lkp_here _ _ _ | with_reducible assumption | refine lkp_there (by kernel_rfl) ?_)); (with_reducible refine i_nil ?_))
  have h1 := nl_len false x
  have h2 : (dd (stB true []) (nl false x)).length ≤ _ := dd_len true (nl false x)
  refine call_sub (Fm.Wd (by assumption)).pat2 (sb_nl (text := x) (by omega) x.length [] x (Nat.le_refl _) rfl) (by decide) (by omega) (by omega) ?_
  intro t2 s2 G2
  refine cur (by assumption) ?_; intro F
  have F := F.gws G2
  ((with_reducible refine i_nil ?_))
  refine call_sub (Fm.Wd (by assumption)).pat1 (sb_dd (text := nl false x) (by omega) (nl false x).length [] (nl false x) (Nat.le_refl _) rfl) (by decide) (by omega) (by omega) ?_
  intro t3 s3 G3
  exact h _ _ (F.gw.trans G3)

noncomputable def mrow (r : List Nat) : List Nat := if r.head? = some 46 then 46 :: r else r
noncomputable def sepF (i : Nat) : List Nat := ([[13], [13, 10], [10], []] : List (List Nat)).getD i []
noncomputable def Cl (r : List Nat) : Prop := ∀ c ∈ r, c ≠ 10 ∧ c ≠ 13
theorem nl_cr {r rest : List Nat} (h : Cl r) (h2 : rest.getD 0 0 ≠ 10) : nl false (r ++ 13 :: rest) = r ++ 13 :: 10 :: nl false rest := by
  rw [nl_plain r _ h, nl, if_neg (by omega), if_pos rfl, nl_true h2]
theorem nl_crlf {r rest : List Nat} (h : Cl r) : nl false (r ++ 13 :: 10 :: rest) = r ++ 13 :: 10 :: nl false rest := by
  rw [nl_plain r _ h, nl, if_neg (by omega), if_pos rfl, nl, if_pos rfl, if_pos rfl]
theorem nl_lf {r rest : List Nat} (h : Cl r) : nl false (r ++ 10 :: rest) = r ++ 13 :: 10 :: nl false rest := by
  rw [nl_plain r _ h, nl, if_pos rfl, if_neg (by decide)]
theorem nl_end {r : List Nat} (h : Cl r) : nl false r = r := by
  have := nl_plain r [] h
  simpa [nl] using this
theorem dd_false {r rest : List Nat} (h : Cl r) : dd false (r ++ rest) = r ++ dd false rest := by
  induction r with
  | nil => rfl
  | cons c r ih =>
    have hc := h c (List.mem_cons_self ..)
    rw [List.cons_append, dd, if_neg (by simp), show (c == 10) = false by simpa using hc.1, ih fun d hd => h d (List.mem_cons_of_mem _ hd)]; rfl
theorem dd_crlf {rest : List Nat} : dd false (13 :: 10 :: rest) = 13 :: 10 :: dd true rest := by
  rw [dd, if_neg (by simp), show ((13 : Nat) == 10) = false by decide, dd, if_neg (by simp)]; rfl
theorem dd_row {r rest : List Nat} (h : Cl r) : dd true (r ++ 13 :: 10 :: rest) = mrow r ++ 13 :: 10 :: dd true rest := by
  cases r with
  | nil => show dd true (13 :: 10 :: rest) = _; rw [dd, if_neg (by simp), show ((13 : Nat) == 10) = false by decide, dd, if_neg (by simp)]; rfl
  | cons c r =>
    have hc := h c (List.mem_cons_self ..)
    have hr : Cl r := fun d hd => h d (List.mem_cons_of_mem _ hd)
    rw [List.cons_append, dd]
    by_cases h46 : c = 46
    · subst h46
      rw [if_pos ⟨rfl, rfl⟩, dd_false hr, dd_crlf]; simp [mrow]
    · rw [if_neg (by simp [h46]), show (c == 10) = false by simpa using hc.1, dd_false hr, dd_crlf]; simp [mrow, h46]
theorem dd_last {r : List Nat} (h : Cl r) : dd true r = mrow r := by
  cases r with
  | nil => rfl
  | cons c r =>
    have hc := h c (List.mem_cons_self ..)
    have hr : Cl r := fun d hd => h d (List.mem_cons_of_mem _ hd)
    have e : dd false r = r := by have := dd_false (rest := []) hr; simpa [dd] using this
    rw [dd]
    by_cases h46 : c = 46
    · subst h46; rw [if_pos ⟨rfl, rfl⟩, e]; simp [mrow]
    · rw [if_neg (by simp [h46]), show (c == 10) = false by simpa using hc.1, e]; simp [mrow, h46]
theorem head_ne {r rest : List Nat} (h : Cl r) (h2 : rest.getD 0 0 ≠ 10) : (r ++ rest).getD 0 0 ≠ 10 := by
  cases r with
  | nil => exact h2
  | cons c r => exact (h c (List.mem_cons_self ..)).1
theorem mail_text {xs : List (List Nat)} (hn : 1 ≤ xs.length) (hx : xs.length ≤ 4) (h : ∀ r ∈ xs, Cl r) :
    dd true (nl false ((List.range xs.length).map fun i => xs.getD i [] ++ sepF i).flatten) = joinC (xs.map mrow ++ if xs.length < 4 then [[]] else []) := by
  match xs, hn, hx, h with
  | [a], _, _, h =>
    have ha := h a (by simp)
    show dd true (nl false (a ++ [13] ++ [])) = _
    rw [List.append_nil, nl_cr ha (by decide), nl, dd_row ha, dd]; rfl
  | [a, b], _, _, h =>
    have ha := h a (by simp)
    have hb := h b (by simp)
    show dd true (nl false (a ++ [13] ++ (b ++ [13, 10] ++ []))) = _
    rw [show a ++ [13] ++ (b ++ [13, 10] ++ []) = a ++ 13 :: (b ++ 13 :: 10 :: []) by simp, nl_cr ha (head_ne hb (by decide)), nl_crlf hb, nl, dd_row ha, dd_row hb, dd]; rfl
  | [a, b, c], _, _, h =>
    have ha := h a (by simp)
    have hb := h b (by simp)
    have hc := h c (by simp)
    show dd true (nl false (a ++ [13] ++ (b ++ [13, 10] ++ (c ++ [10] ++ [])))) = _
    rw [show a ++ [13] ++ (b ++ [13, 10] ++ (c ++ [10] ++ [])) = a ++ 13 :: (b ++ 13 :: 10 :: (c ++ 10 :: [])) by simp, nl_cr ha (head_ne hb (by simp)), nl_crlf hb, nl_lf hc, nl, dd_row ha, dd_row hb, dd_row hc, dd]; rfl
  | [a, b, c, d], _, _, h =>
    have ha := h a (by simp)
    have hb := h b (by simp)
    have hc := h c (by simp)
    have hd := h d (by simp)
    show dd true (nl false (a ++ [13] ++ (b ++ [13, 10] ++ (c ++ [10] ++ (d ++ [] ++ []))))) = _
    rw [show a ++ [13] ++ (b ++ [13, 10] ++ (c ++ [10] ++ (d ++ [] ++ []))) = a ++ 13 :: (b ++ 13 :: 10 :: (c ++ 10 :: d)) by simp, nl_cr ha (head_ne hb (by simp)), nl_crlf hb, nl_lf hc, nl_end hd, dd_row ha, dd_row hb, dd_row hc, dd_last hd]; rfl
  | _ :: _ :: _ :: _ :: _ :: _, _, hx, _ => simp at hx
theorem sep_at {i : Nat} (h : i < 4) : ([[13], [13, 10], [10], []] : List (List Nat))[i]? = some (sepF i) := by
  match i, h with
  | 0, _ => rfl
  | 1, _ => rfl
  | 2, _ => rfl
  | 3, _ => rfl
theorem sep_len (i : Nat) : (sepF i).length ≤ 2 := by
  match i with
  | 0 => decide
  | 1 => decide
  | 2 => decide
  | 3 => decide
  | i + 4 => simp [sepF]
theorem fn_sent (P : Params) : fnOk P 205 (fdL 19 "_law_sent" 204) := ⟨by decide, by kernel_rfl⟩
theorem sent_spec {w : World} {A : Around} {E : Value → Shared → Prop} {s : Shared} {a : Addr} {xs : List (List Nat)} {Q : Value → Shared → Prop} (W : Wd w s.heap) (R : Rm A 4)
    (hs : Strs a xs s.heap) (hn : 1 ≤ xs.length) (hx : xs.length ≤ 4) (hlen : ∀ r ∈ xs, r.length ≤ 1000) (hdig : ∀ r ∈ xs, Cl r) 
    (h : ∀ b s', Strs b (xs.map mrow) s'.heap → (xs.length < 4 → SN b (xs.map mrow) s'.heap ∧ s.heap.objs.size ≤ b) → Gw s s' → Q (.ref b) s') : wpAny (MM w) A (call (.ref 205) [.ref a]) Q E s := by
  refine callF (body := fB (st 19)) (binds := [("rows", .ref a)]) ["rows"] W R.lim (fn_sent _) (by kernel_rfl) (by kernel_rfl) (by kernel_rfl) (by kernel_rfl) (by kernel_rfl) rfl (by decide +kernel) (by decide +kernel) (by kernel_rfl) ⟨rfl, rfl⟩ ?_
  intro s₁ env henv F
  have hh : (A.deeper env).handled = none := (R.deeper env).handled
  conv in fB _ => whnf
  ((with_reducible refine e_cons ?_; refine e_assign ?_ (by kernel_rfl)); (with_reducible refine r_meth (pl := ?p95) ?_ ?e95); (case e95 => exact rfl); (with_reducible refine r_str (xs := ?x96) ?h96 (by assumption) ?_); (case h96 => exact sx0); intro _ _ _; (with_reducible refine GM.join ?_; refine cw_builtin ?_ (by kernel_rfl) (by kernel_rfl); refine i_cons ?_ (by kernel_rfl)))
  refine comp_rule [("rows", .ref a)] ["rows"] (by assumption) ?_ rfl (by kernel_rfl) (by intro _; rfl)
  ((with_reducible refine r_call ?_); (with_reducible refine name_boot (v := ?v97) (by assumption) ?h97 ?_ (by kernel_rfl) (by kernel_rfl)); (case h97 => exact bt_range); (with_reducible refine cw_type ?_ (by kernel_rfl) (by kernel_rfl); refine i_cons ?_ (by kernel_rfl); refine r_call ?_); (with_reducible refine name_boot (v := ?v98) (by assumption) ?h98 ?_ (by kernel_rfl) (by kernel_rfl)); (case h98 => exact bt_len); (with_reducible refine cw_builtin ?_ (by kernel_rfl) (by kernel_rfl); refine i_cons ?_ (by kernel_rfl)); (with_reducible refine lkp_name (v := ?v99) (by assumption) ?h99 ?_ (by kernel_rfl)); (case h99 => repeat (first | with_reducible exact lkp_here _ _ _ | with_reducible assumption | refine lkp_there (by kernel_rfl) ?_)); (with_reducible refine i_nil ?_))
  refine len_strs (by assumption) (hs.gw (Fm.gw (by assumption))) (by omega) ?_; intro _ _ _
  ((with_reducible refine i_nil ?_))
  refine range_1 (by assumption) ?_; intro rg s₅ F
  refine ⟨_, _, xs.length - 0, _, fun _ => true, fun i y => ∃ t, y = .str (tx (xs.getD i [] ++ sepF i)) t, F, by (repeat (first | (with_reducible exact Subs.nil) | (refine Subs.cons ?hk ?_; (case hk => ((repeat (first | (with_reducible exact lkp_here _ _ _) | (with_reducible assumption) | refine lkp_there (by kernel_rfl) ?_))))))), iter_rg (a := 0) hh F.pins.1 (by omega) (by omega), by simp [sizeLine]; omega, ?_, ?_⟩
  · intro cenv i x s₃ E' hi hx' g₃ F₃
    obtain ⟨tk, rfl⟩ := hx'
    refine tests_nil ⟨rfl, by ((refine ⟨_, by assumption, ?_⟩; intro h; first | exact h | exact h.2 | exact h.2.2 | exact h.2.2.2 | exact h.2.2.2.2)), fun _ => ?_⟩
    ((with_reducible refine v_bin ?_; refine r_sub ?_); (with_reducible refine lkp_name (v := ?v100) (by assumption) ?h100 ?_ (by kernel_rfl)); (case h100 => repeat (first | with_reducible exact lkp_here _ _ _ | with_reducible assumption | refine lkp_there (by kernel_rfl) ?_)); (with_reducible refine lkp_name (v := ?v101) (by assumption) ?h101 ?_ (by kernel_rfl)); (case h101 => repeat (first | with_reducible exact lkp_here _ _ _ | with_reducible assumption | refine lkp_there (by kernel_rfl) ?_)))
    have hi' : i < xs.length := by omega
    refine sub_strs (hs.gw (F.gw.trans (Fm.gw (by assumption)))) (k := i) (by omega) (by omega) (List.getElem?_eq_getElem hi') ?_; intro _
    ((with_reducible refine r_sub ?_; refine r_list ?_; refine i_cons ?_ (by kernel_rfl)); (with_reducible refine r_str (xs := ?x102) ?h102 (by assumption) ?_); (case h102 => exact sx3); intro _ _ _; (with_reducible refine i_cons ?_ (by kernel_rfl)); (with_reducible refine r_str (xs := ?x103) ?h103 (by assumption) ?_); (case h103 => exact sx5); intro _ _ _; (with_reducible refine i_cons ?_ (by kernel_rfl)); (with_reducible refine r_str (xs := ?x104) ?h104 (by assumption) ?_); (case h104 => exact sx4); intro _ _ _; (with_reducible refine i_cons ?_ (by kernel_rfl)); (with_reducible refine r_str (xs := ?x105) ?h105 (by assumption) ?_); (case h105 => exact sx0); intro _ _ _; (with_reducible refine i_nil ?_))
    refine ⟨by simp [sizeLine], _, _, _, _, _, by assumption, ?_⟩
    intro lb s₆ _ _ F6
    ((with_reducible refine lkp_name (v := ?v106) (by assumption) ?h106 ?_ (by kernel_rfl)); (case h106 => repeat (first | with_reducible exact lkp_here _ _ _ | with_reducible assumption | refine lkp_there (by kernel_rfl) ?_)))
    have hS : Strs lb [[13], [13, 10], [10], []] s₆.heap := ⟨[([13], _), ([13, 10], _), ([10], _), ([], _)], F6.pins.1, rfl⟩
    refine sub_strs hS (k := i) (by omega) (by omega) (m := sepF i) (sep_at (by omega)) ?_; intro _
    have hr := hlen _ (List.getElem_mem hi')
    refine o_addS (by assumption) (by have := sep_len i; simp [sizeLine]; omega) ?_; intro _ _ _
    refine ⟨⟨_, by rw [List.getD_eq_getElem?_getD, List.getElem?_eq_getElem hi']; rfl⟩, by ((refine ⟨_, by assumption, ?_⟩; intro h; first | exact h | exact h.2 | exact h.2.2 | exact h.2.2.2 | exact h.2.2.2.2))⟩
  · intro D ys s' hD hp F
    rw [filt_true] at hp
    ((with_reducible refine i_nil ?_))
    have hT := F.pins.1.strs hp
    have hTl : (((List.range (xs.length - 0)).map fun i => xs.getD i [] ++ sepF i).flatten).length ≤ 5000 := by
      rw [Nat.sub_zero]
      have : ∀ n, n ≤ xs.length → (((List.range n).map fun i => xs.getD i [] ++ sepF i).flatten).length ≤ 1002 * n := by
        intro n
        induction n with
        | zero => simp
        | succ n ih =>
          intro hn'
          have h1 := hlen _ (List.getElem_mem (show n < xs.length by omega))
          have h2 := sep_len n
          rw [List.range_succ, List.map_append, List.flatten_append, List.length_append]
          have h3 := ih (by omega)
          have h4 : ([n].map fun i => xs.getD i [] ++ sepF i).flatten = xs.getD n [] ++ sepF n := by simp
          rw [h4, List.length_append, List.getD_eq_getElem?_getD, List.getElem?_eq_getElem (show n < xs.length by omega)]
          simp only [Option.getD_some]
          omega
      have := this xs.length (Nat.le_refl _)
      omega
    refine join_tx (by assumption) hT (by simp [sizeLine]; simp at hTl; omega) ?_; intro _ _ _
    have hmail := mail_text hn hx hdig
    rw [Nat.sub_zero] at hT hTl ⊢
    generalize ((List.range xs.length).map fun i => xs.getD i [] ++ sepF i).flatten = T at hmail hTl ⊢
    ((with_reducible refine storeV (by assumption) ?_ (by kernel_rfl)); intro _ _; (with_reducible refine e_cons ?_; refine e_assign ?_ (by kernel_rfl)); (with_reducible refine r_meth (pl := ?p107) ?_ ?e107); (case e107 => exact rfl); (with_reducible refine r_call ?_); (with_reducible refine name_glob (v := ?v108) (by assumption) ?h108 ?_ (by kernel_rfl)); (case h108 => exact gl_quotedata _))
    refine cw_fn (fn_quote _) ?_ (by kernel_rfl) (by kernel_rfl)
    ((with_reducible refine i_cons ?_ (by kernel_rfl)); (with_reducible refine lkp_name (v := ?v109) (by assumption) ?h109 ?_ (by kernel_rfl)); (case h109 => repeat (first | with_reducible exact lkp_here _ _ _ | with_reducible assumption | refine lkp_there (by kernel_rfl) ?_)); (with_reducible refine i_nil ?_))
    refine ⟨Fm.Wd (by assumption), quote_spec (Fm.Wd (by assumption)) ((R.less (j := 3) (by omega)).deeper env) (by omega) ?_⟩
    intro t' s₂ G₂
    refine cur (by assumption) ?_; intro F
    have F := F.gws G₂
    rw [hmail]
    ((with_reducible refine GM.split ?_; refine cw_builtin ?_ (by kernel_rfl) (by kernel_rfl); refine i_cons ?_ (by kernel_rfl)); (with_reducible refine r_str (xs := ?x110) ?h110 (by assumption) ?_); (case h110 => exact sx5); intro _ _ _; (with_reducible refine i_nil ?_))
    have hm13 : ∀ r ∈ xs.map mrow, 13 ∉ r := fun r hr h13 => by
      obtain ⟨q, hq, rfl⟩ := List.mem_map.mp hr
      unfold mrow at h13
      split at h13
      · rcases List.mem_cons.mp h13 with h | h
        · cases h
        · exact (hdig q hq 13 h).2 rfl
      · exact (hdig q hq 13 h13).2 rfl
    have hdl := dd_len true (nl false T)
    have hnl := nl_len false T
    rw [hmail] at hdl
    by_cases h4 : xs.length < 4
    · rw [if_pos h4] at hdl ⊢
      refine split_tx (by assumption) (by simp) (fun r hr => ?_) (by simp; omega) (by omega) ?_
      · rcases List.mem_append.mp hr with hr | hr
        · exact hm13 r hr
        · simp at hr; subst hr; simp
      intro D2 s₄ F
      ((with_reducible refine storeV (by assumption) ?_ (by kernel_rfl)); intro _ _; (with_reducible refine e_cons ?_; refine e_if ?_; refine t_cmp ?_ (by kernel_rfl); refine r_call ?_); (with_reducible refine name_boot (v := ?v111) (by assumption) ?h111 ?_ (by kernel_rfl) (by kernel_rfl)); (case h111 => exact bt_len); (with_reducible refine cw_builtin ?_ (by kernel_rfl) (by kernel_rfl); refine i_cons ?_ (by kernel_rfl)); (with_reducible refine lkp_name (v := ?v112) (by assumption) ?h112 ?_ (by kernel_rfl)); (case h112 => repeat (first | with_reducible exact lkp_here _ _ _ | with_reducible assumption | refine lkp_there (by kernel_rfl) ?_)); (with_reducible refine i_nil ?_))
      refine len_strs (by assumption) (hs.gw (Fm.gw (by assumption))) (by omega) ?_; intro _ _ _
      ((with_reducible refine r_int (by assumption) ?_); intro _ _ _; (with_reducible refine lt_int ?_; refine wpAny_truthy_bool ?_))
      refine if_t (by simp; omega) ?_
      ((with_reducible refine e_cons ?_; refine e_assign ?_ (by kernel_rfl); refine r_slice ?_); (with_reducible refine lkp_name (v := ?v113) (by assumption) ?h113 ?_ (by kernel_rfl)); (case h113 => repeat (first | with_reducible exact lkp_here _ _ _ | with_reducible assumption | refine lkp_there (by kernel_rfl) ?_)); (with_reducible refine p_none ?_; refine p_some ?_; refine v_neg ?_); (with_reducible refine r_int (by assumption) ?_); intro _ _ _; (with_reducible refine u_neg (by assumption) ?_); intro _ _ _)
      refine cur (by assumption) ?_; intro F
      have hsz0 := F.gw.size
      refine slice_initN F F.pins.1 (by simp [sizeLine]; omega) ?_
      intro D3 s₅ hD3 _ F
      ((with_reducible refine storeV (by assumption) ?_ (by kernel_rfl)); intro _ _; (with_reducible refine e_nil ?_; refine e_cons ?_; refine e_ret ?_); (with_reducible refine lkp_name (v := ?v114) (by assumption) ?h114 ?_ (by kernel_rfl)); (case h114 => repeat (first | with_reducible exact lkp_here _ _ _ | with_reducible assumption | refine lkp_there (by kernel_rfl) ?_)))
      refine cur (by assumption) ?_; intro F
      have hS := F.pins.1
      rw [List.dropLast_concat] at hS
      exact h _ _ hS.strs (fun _ => ⟨hS, Nat.le_trans hsz0 hD3⟩) F.gw
    · rw [if_neg h4] at hdl ⊢
      refine split_tx (by assumption) (by intro e; simp at e; subst e; simp at hn) (fun r hr => hm13 r (by simpa using hr)) (by simp; omega) (by omega) ?_
      intro D2 s₄ F
      ((with_reducible refine storeV (by assumption) ?_ (by kernel_rfl)); intro _ _; (with_reducible refine e_cons ?_; refine e_if ?_; refine t_cmp ?_ (by kernel_rfl); refine r_call ?_); (with_reducible refine name_boot (v := ?v115) (by assumption) ?h115 ?_ (by kernel_rfl) (by kernel_rfl)); (case h115 => exact bt_len); (with_reducible refine cw_builtin ?_ (by kernel_rfl) (by kernel_rfl); refine i_cons ?_ (by kernel_rfl)); (with_reducible refine lkp_name (v := ?v116) (by assumption) ?h116 ?_ (by kernel_rfl)); (case h116 => repeat (first | with_reducible exact lkp_here _ _ _ | with_reducible assumption | refine lkp_there (by kernel_rfl) ?_)); (with_reducible refine i_nil ?_))
      refine len_strs (by assumption) (hs.gw (Fm.gw (by assumption))) (by omega) ?_; intro _ _ _
      ((with_reducible refine r_int (by assumption) ?_); intro _ _ _; (with_reducible refine lt_int ?_; refine wpAny_truthy_bool ?_))
      refine if_f (by simp; omega) ?_
      ((with_reducible refine e_nil ?_; refine e_cons ?_; refine e_ret ?_); (with_reducible refine lkp_name (v := ?v117) (by assumption) ?h117 ?_ (by kernel_rfl)); (case h117 => repeat (first | with_reducible exact lkp_here _ _ _ | with_reducible assumption | refine lkp_there (by kernel_rfl) ?_)))
      refine cur (by assumption) ?_; intro F
      exact h _ _ (by have := F.pins.1; simpa using this) (fun h => absurd h h4) F.gw
/-! ## _law_piles -/
noncomputable def okA (env : Env) (I : Nat) (b : Addr) : Prop := offE env b ∧ I < b
/-- what stands while the piles grow -/
noncomputable def PQ (env : Env) (I : Nat) (L : Addr) (St : Heap → Prop) (qs : List (Addr × Addr)) (T : List (List Nat)) (h : Heap) : Prop := St h ∧ LN L (qs.map fun q => .ref q.1) h ∧ PilesAt (okA env I) qs T h
structure PC (g : Shared) (env : Env) (L I : Nat) (St : Heap → Prop) : Prop where
  h107 : 107 < g.heap.objs.size
  hL : L < I ∧ g.heap.objs.size ≤ L ∧ offE env L
  hI : offE env I
  st : ∀ h h' : Heap, (∀ o, h.get? I = some o → h'.get? I = some o) → St h → St h'
  lt : ∀ h, St h → I < h.objs.size
structure QT (qs : List (Addr × Addr)) (T : List (List Nat)) : Prop where
  len : qs.length = T.length
  nd : (qs.map (·.1)).Nodup

section
variable {g : Shared} {env : Env} {L I : Nat} {St : Heap → Prop} {qs : List (Addr × Addr)} {T : List (List Nat)} {h h' : Heap}
theorem PC.gI (C : PC g env L I St) : g.heap.objs.size ≤ I := Nat.le_trans C.hL.2.1 (Nat.le_of_lt C.hL.1)
theorem PC.ne103 (C : PC g env L I St) {b : Nat} (hb : g.heap.objs.size ≤ b) : (b : Addr) ≠ 103 := fun e => by have := C.h107; subst e; exact absurd (Nat.lt_of_lt_of_le this hb) (by decide)
theorem stb_pq (C : PC g env L I St) : Stb env (PQ env I L St qs T) := fun _ _ k ⟨a, b, c⟩ =>
  ⟨C.st _ _ (fun o e => k I o C.hI e fun _ => C.ne103 C.gI) a, stb_ln C.hL.2.2 _ _ k b, stb_piles (fun _ hb => hb.1) _ _ k c⟩
theorem PQ.kb (C : PC g env L I St) (Z : QT qs T) (p : PQ env I L St qs T h) {k : Nat} {x d : Addr} {r : List Nat} (hq : qs[k]? = some (x, d)) (hx : I < x) (hy : IsP h x) (K : KeepB x h h') (hn : Pile (okA env I) x d r h') : PQ env I L St qs (T.set k r) h' :=
  ⟨C.st _ _ (fun o e => K I o (Nat.ne_of_lt hx) e fun _ => C.ne103 C.gI) p.1, p.2.1.at fun o e t => K L o (Nat.ne_of_lt (Nat.lt_trans C.hL.1 hx)) e t, p.2.2.upd Z.nd hq hy K hn⟩
theorem QT.set {k : Nat} {r : List Nat} (Z : QT qs T) : QT qs (T.set k r) := ⟨by rw [List.length_set]; exact Z.len, Z.nd⟩
theorem PQ.at (p : PQ env I L St qs T h) {k : Nat} {x d : Addr} {r : List Nat} (hq : qs[k]? = some (x, d)) (hr : T[k]? = some r) : Pile (okA env I) x d r h := p.2.2 k _ r hq hr
theorem PrL.kb {a y : Addr} {ps : List (Addr × Nat × Tok × Tok)} (x : PrL a ps h) (hy : IsP h y) (K : KeepB y h h') : PrL a ps h' := by
  refine ⟨?_, fun p hp => ?_⟩
  · obtain ⟨o, e, c, r⟩ := x.1
    exact ⟨o, K _ _ (fun e2 => by have := (hy _ (e2 ▸ e)).1; rw [c] at this; cases this) e (fun t => absurd t (notTb_of_cls (by rw [c]; exact fun e => nomatch e))), c, r⟩
  · obtain ⟨o, e, c, r⟩ := x.2 p hp
    exact ⟨o, K _ _ (fun e2 => by have := (hy _ (e2 ▸ e)).1; rw [c] at this; cases this) e (fun t => absurd t (notTb_of_cls (by rw [c]; exact fun e => nomatch e))), c, r⟩
theorem stb_prl {a : Addr} {ps : List (Addr × Nat × Tok × Tok)} (ha : offE env a) (hp : ∀ p ∈ ps, offE env p.1) : Stb env (PrL a ps) := fun _ _ k x => ⟨stb_ls _ ha _ _ k x.1, fun p hpm => stb_tup (hp p hpm) _ _ k (x.2 p hpm)⟩
theorem prs_of {ps : List (Addr × Nat × Tok × Tok)} (h1 : ∀ p ∈ ps, okA env I p.1 ∧ h.IsTuple p.1 #[.str (tx []) p.2.2.1, .str (tx [p.2.1]) p.2.2.2]) : Prs (ps.map fun p => .ref p.1) (ps.map (·.2.1)) h := ⟨ps, rfl, rfl, fun p hp => (h1 p hp).2⟩
end
/-- a saying that neither the frame's stores nor a pile's growth touch -/
noncomputable def XS (env : Env) (X : Heap → Prop) : Prop := Stb env X ∧ ∀ (x : Addr) (h h' : Heap), IsP h x → KeepB x h h' → X h → X h'
theorem xs_prl {env : Env} {a : Addr} {ps : List (Addr × Nat × Tok × Tok)} (ha : offE env a) (hp : ∀ p ∈ ps, offE env p.1) : XS env (PrL a ps) := ⟨stb_prl ha hp, fun _ _ _ hy K x => x.kb hy K⟩
theorem xs_iter {env : Env} {g : Shared} {I a : Nat} {i : Nat} (hI : offE env I) (h1 : 107 < g.heap.objs.size) (h2 : g.heap.objs.size ≤ I) : XS env (fun h => h.IsListIter I a i) :=
  ⟨fun _ _ k x => x.at fun o e => k I o hI e fun _ e => absurd (Nat.lt_of_lt_of_le h1 h2) (by rw [show I = 103 from e]; decide), fun x _ _ hy K ⟨o, e, c, r⟩ =>
    ⟨o, K I o (fun e2 => by have := (hy _ (e2 ▸ e)).1; rw [c] at this; cases this) e (fun _ e => absurd (Nat.lt_of_lt_of_le h1 h2) (by rw [show I = 103 from e]; decide)), c, r⟩⟩
theorem XS.and {env : Env} {X Y : Heap → Prop} (a : XS env X) (b : XS env Y) : XS env (fun h => X h ∧ Y h) := ⟨b.1.and a.1, fun x h h' hy K z => ⟨a.2 x h h' hy K z.1, b.2 x h h' hy K z.2⟩⟩
noncomputable def fdP : FuncData := fdT (st 22) "_law_piles" "_law_piles" [] .none (.str "law_xl0004_01" 523) (.ref 219) .none
theorem fn_piles (P : Params) : fnOk P 220 fdP := ⟨by decide, by kernel_rfl⟩
noncomputable def forB : Stmt → List Stmt
  | .For _ _ b _ _ => b
  | _ => []
/-- the while's body -/
noncomputable def pB : List Stmt := match forB ((fB (st 22)).getD 1 (.Pass default)) with
  | [_, _, .While _ b _ _] => b
  | _ => []

section
variable {w : World} {A : Around} {E : Value → Shared → Prop} {g s : Shared} {env : Env} {L I : Nat} {St : Heap → Prop} {qs : List (Addr × Addr)} {T : List (List Nat)} {l : List (Str × Value)} {Q : Flow → Shared → Prop}
theorem Fm.pq {P' : Heap → Prop} (F : Fm w g true fdP.scope env s l (fun h => P' h ∧ PQ env I L St qs T h)) : PQ env I L St qs T s.heap := F.pins.2
/-- if depth == len(piles): piles.append(_Accumulator()) -/
theorem p_grow {k : Nat} {t : Tok} (C : PC g env L I St) (Z : QT qs T) (R : Rm A 5) (F : Fm w g true fdP.scope env s l (PQ env I L St qs T)) (hd : lkp l "depth" = some (.int k t)) (hp : lkp l "piles" = some (.ref L)) (hk : k ≤ T.length) (hT : T.length ≤ 100)
    (h : ∀ qs' T' s', QT qs' T' → T' = (if k = T.length then T ++ [[]] else T) → Fm w g true fdP.scope env s' l (PQ env I L St qs' T') → Q .next s') : wpAny (MM w) A (exec (pB.getD 0 (.Pass default)) env) Q E s := by
  conv in pB.getD 0 _ => whnf
  refine e_if (t_cmp ?_ (by kernel_rfl))
  refine lkp_name F hd ?_ (by kernel_rfl)
  refine r_call (name_boot F bt_len ?_ (by kernel_rfl) (by kernel_rfl))
  refine cw_builtin (i_cons (lkp_name F hp ?_ (by kernel_rfl)) (by kernel_rfl)) (by kernel_rfl) (by kernel_rfl)
  refine i_nil ?_
  have hlen : (qs.map fun q => Value.ref q.1).length = T.length := by rw [List.length_map]; exact Z.len
  refine len_ls F F.pins.2.1.ls (by omega) fun t₂ s₂ F₂ => ?_
  rw [hlen]
  refine eq_int (wpAny_truthy_bool ?_)
  by_cases hc : k = T.length
  · refine if_t (by simp [hc]) ?_
    refine e_cons (e_expr F₂ ?_ (by kernel_rfl) (by rfl))
    refine r_meth (pl := ?pl) ?_ ?he
    case he => exact rfl
    refine lkp_name F₂ hp ?_ (by kernel_rfl)
    obtain ⟨n, e⟩ := F₂.pins.2.1
    refine Calls.getMethod_list_append e rfl rfl ?_
    refine cw_builtin (i_cons ?_ (by kernel_rfl)) (by kernel_rfl) (by kernel_rfl)
    refine r_new F₂ (R.less (by decide)) (by kernel_rfl) fun x d' s₃ hx hd' G₃ a₃ => i_nil ?_
    show wpAny (MM w) A (call (.builtin "list.append") [.ref L, .ref x]) _ E s₃
    have F₃ := F₂.gws G₃
    have hI₂ := C.lt _ F₂.pins.1
    have hIx : I < x := Nat.lt_of_lt_of_le hI₂ hx
    have hLx : (L : Addr) ≠ x := Nat.ne_of_lt (Nat.lt_trans C.hL.1 hIx)
    refine wpAny_list_append_plain F₃.pins.2.1 (hsz := by simp [hlen, sizeLine]; omega) fun h₄ hl₄ hs₄ => ?_
    have a₄ : Ac x d' [] h₄ := a₃.kp (.of_same hs₄) (Ne.symm hLx) (Nat.ne_of_gt (Nat.lt_trans C.hL.1 (Nat.lt_of_lt_of_le hI₂ hd')))
    have hnew : QT (qs ++ [(x, d')]) (T ++ [[]]) := ⟨by simp [Z.len], by
      rw [List.map_append]
      refine List.nodup_append.mpr ⟨Z.nd, by simp, fun a ha b hb e => ?_⟩
      simp at hb
      obtain ⟨q, hq, rfl⟩ := List.mem_map.mp ha
      obtain ⟨i, hi⟩ := List.getElem?_of_mem hq
      obtain ⟨_, _, _, a, _⟩ := F₂.pins.2.2 i q _ hi (List.getElem?_eq_getElem (by rw [← Z.len]; exact (List.getElem?_eq_some_iff.mp hi).1))
      exact absurd a.lt (by rw [e, hb]; exact Nat.not_lt.mpr hx)⟩
    have F₄ := F₃.stepB (x := L) (s' := { s₃ with heap := h₄ }) (P' := PQ env I L St (qs ++ [(x, d')]) (T ++ [[]])) (F₃.gw.ofB C.hL.2.1 hs₄ _) (.of_same hs₄) C.hL.2.2 (stb_pq C)
      ⟨C.st _ _ (fun o e => hs₄.extBut _ _ (Nat.ne_of_gt C.hL.1) e) F₃.pins.1, by simpa [LN] using hl₄, (F₃.pins.2.2.kp fun b o hb e _ _ => hs₄.extBut b o (Nat.ne_of_gt (Nat.lt_trans C.hL.1 hb.2)) e).snoc Z.len
        ⟨⟨F₂.off hx, hIx⟩, ⟨F₂.off hd', Nat.lt_of_lt_of_le hI₂ hd'⟩, [], a₄, rfl, fun _ h => nomatch h⟩⟩
    exact e_nil (h _ _ _ hnew (by rw [if_pos hc]) F₄)
  · refine if_f (by simp; omega) ?_
    refine e_nil (h qs T _ Z (by rw [if_neg hc]) F₂)
end
section
variable {w : World} {A : Around} {E : Value → Shared → Prop} {g s : Shared} {env : Env} {L I : Nat} {St : Heap → Prop} {qs : List (Addr × Addr)} {T : List (List Nat)} {l : List (Str × Value)} {Q : Flow → Shared → Prop}
theorem filt_count (r : List Nat) (m : Nat) : ((List.range r.length).filter fun i => decide (r.getD i 0 ≤ m)).length = cutK r m := by
  have e : r = (List.range r.length).map fun i => r.getD i 0 := by
    apply List.ext_getElem?
    intro i
    by_cases h : i < r.length
    · simp [h, List.getD_eq_getElem?_getD]
    · rw [List.getElem?_eq_none (Nat.le_of_not_lt h), List.getElem?_eq_none (by simpa using Nat.le_of_not_lt h)]
  unfold cutK
  conv => rhs; rw [e]
  rw [List.filter_map, List.length_map]
  rfl
theorem sub_ref {a : Addr} {vs : List Value} {k : Nat} {t : Tok} {x : Addr} {Q : Value → Shared → Prop} (hl : LN a vs s.heap) (hk : k < 2 ^ 63) (hv : vs[k]? = some (.ref x)) (h : Q (.ref x) s) : KItem w A E Q (.ref a) (.int k t) s := sub_list hl.ls (item_ls hl.ls rfl hk hv h)
/-- off = piles[depth].pop_from(len([one for one in str(piles[depth]) if one <= moved])) -/
theorem p_pop {k m : Nat} {t u : Tok} {r : List Nat} (C : PC g env L I St) (Z : QT qs T) (R : Rm A 6) (F : Fm w g true fdP.scope env s l (PQ env I L St qs T)) (hd : lkp l "depth" = some (.int k t)) (hp : lkp l "piles" = some (.ref L)) (hm : lkp l "moved" = some (.str (tx [m]) u))
    (hk : k ≤ 100) (hr : T[k]? = some r) (hrl : r.length ≤ 100)
    (h : ∀ a ps s', ps.map (·.2.1) = r.drop (cutK r m) → (∀ p ∈ ps, offE env p.1) → offE env a → Fm w g true fdP.scope env s' (("off", .ref a) :: l) (fun h => PrL a ps h ∧ PQ env I L St qs (T.set k (r.take (cutK r m))) h) → Q .next s') :
    wpAny (MM w) A (exec (pB.getD 1 (.Pass default)) env) Q E s := by
  conv in pB.getD 1 _ => whnf
  obtain ⟨⟨x, d⟩, hq⟩ : ∃ q, qs[k]? = some q := ⟨_, List.getElem?_eq_getElem (by rw [Z.len]; exact (List.getElem?_eq_some_iff.mp hr).1)⟩
  have hv : (qs.map fun q => Value.ref q.1)[k]? = some (.ref x) := by rw [List.getElem?_map, hq]; rfl
  have pile : ∀ {h}, PQ env I L St qs T h → Pile (okA env I) x d r h := fun p => p.at hq hr
  refine e_assign ?_ (by kernel_rfl)
  refine r_meth (pl := ?pl) ?_ ?he
  case he => exact rfl
  refine r_sub (lkp_name F hp (lkp_name F hd (sub_ref F.pins.2.1 (by omega) hv ?_) (by kernel_rfl)) (by kernel_rfl))
  obtain ⟨okx, okd, ps, a, hps, ht⟩ := pile F.pins
  refine ac_method a F.Wd (f_pop _) (T := "function") (by kernel_rfl) (by decide) (by decide +kernel) ?_
  refine cw_fn1 (fn_pop _) (i_cons ?_ (by kernel_rfl)) (by kernel_rfl)
  refine r_call (name_boot F bt_len ?_ (by kernel_rfl) (by kernel_rfl))
  refine cw_builtin (i_cons ?_ (by kernel_rfl)) (by kernel_rfl) (by kernel_rfl)
  refine comp_rule [("moved", .str (tx [m]) u)] ["moved"] F ?_ rfl (by kernel_rfl) (by intro _; rfl)
  refine r_call (name_boot F bt_str ?_ (by kernel_rfl) (by kernel_rfl))
  refine cw_type (i_cons ?_ (by kernel_rfl)) (by kernel_rfl) (by kernel_rfl)
  refine r_sub (lkp_name F hp (lkp_name F hd (sub_ref F.pins.2.1 (by omega) hv (i_nil ?_)) (by kernel_rfl)) (by kernel_rfl))
  refine str_spec F.Wd (R.less (by decide)) a (hps ▸ prs_of ht) (by omega) fun t₁ s₁ G₁ => ?_
  have F₁ := F.gws G₁
  refine ⟨_, _, r.length, _, fun i => decide (r.getD i 0 ≤ m), fun i y => ∃ t, y = .str (tx [r.getD i 0]) t, F₁, .cons hm .nil, iter_tx R.handled, by simp [sizeLine]; omega, ?_, ?_⟩
  · intro cenv i v s₃ E' hi hx g₃ F₃
    obtain ⟨c, tc, hc, rfl⟩ := hx
    have hgd : r.getD i 0 = c := by rw [List.getD_eq_getElem?_getD, hc]; rfl
    refine tests_one ?_
    refine t_cmp (lkp_name F₃ (lkp_here _ _ _) (lkp_name F₃ (lkp_there (by kernel_rfl) (lkp_here _ _ _)) (le_one (wpAny_truthy_bool ?_)) (by kernel_rfl)) (by kernel_rfl)) (by kernel_rfl)
    refine ⟨by show decide (c ≤ m) = decide (r.getD i 0 ≤ m); rw [hgd], ⟨_, F₃, id⟩, fun _ => lkp_name F₃ (lkp_here _ _ _) ⟨⟨tc, by rw [hgd]⟩, ⟨_, F₃, id⟩⟩ (by kernel_rfl)⟩
  · intro D ys s₂ hD hpr F₂
    refine i_nil ?_
    have hyl : ys.length = cutK r m := by rw [← hpr.length]; exact filt_count r m
    have := cutK_le r m
    refine len_ls F₂ F₂.pins.1 (by omega) fun t₃ s₃ F₃ => ?_
    rw [hyl]
    refine i_nil ⟨F₃.Wd, ?_⟩
    obtain ⟨okx, okd, ps, a, hps, ht⟩ := pile F₃.pins.2
    have hpl : ps.length = r.length := by rw [← hps, List.length_map]
    refine pop_spec (s0 := g) F₃.wd F₃.gw (R.less (by decide)) (Nat.le_trans C.gI (Nat.le_of_lt okx.2)) a (by simp; omega) (by simp [sizeLine]; omega) fun O s₄ G₄ K₄ hO hOx hOl a₄ => ?_
    have offO : offE env O := F₃.off hO
    have ht₄ : ∀ p ∈ ps, s₄.heap.IsTuple p.1 #[.str (tx []) p.2.2.1, .str (tx [p.2.1]) p.2.2.2] := fun p hp => by
      obtain ⟨o, e, c, r'⟩ := (ht p hp).2
      exact ⟨o, K₄ _ _ (fun e2 => by have := (a.isP _ (e2 ▸ e)).1; rw [c] at this; cases this) e (fun t => absurd t (notTb_of_cls (by rw [c]; exact fun e => nomatch e))), c, r'⟩
    rw [← List.map_drop] at hOl
    rw [← List.map_take] at a₄
    have P₄ : Pile (okA env I) x d (r.take (cutK r m)) s₄.heap := ⟨okx, okd, ps.take (cutK r m), a₄, by rw [List.map_take, hps], fun p hp => ⟨(ht p (List.mem_of_mem_take hp)).1, ht₄ p (List.mem_of_mem_take hp)⟩⟩
    have hoff : ∀ p ∈ ps.drop (cutK r m), offE env p.1 := fun p hp => (ht p (List.mem_of_mem_drop hp)).1.1
    have F₄ := F₃.stepB (s' := s₄) (P' := fun h => PrL O (ps.drop (cutK r m)) h ∧ PQ env I L St qs (T.set k (r.take (cutK r m))) h) G₄ K₄ okx.1 ((stb_pq C).and (stb_prl offO hoff))
      ⟨⟨hOl, fun p hp => ht₄ p (List.mem_of_mem_drop hp)⟩, F₃.pins.2.kb C Z hq okx.2 a.isP K₄ P₄⟩
    exact storeV F₄ (fun s₅ F₅ => h O (ps.drop (cutK r m)) s₅ (by rw [List.map_drop, hps]) hoff offO F₅) (by kernel_rfl)
end
section
variable {w : World} {A : Around} {E : Value → Shared → Prop} {g s : Shared} {env : Env} {L I : Nat} {St : Heap → Prop} {qs : List (Addr × Addr)} {T : List (List Nat)} {l : List (Str × Value)} {O : Addr} {ps : List (Addr × Nat × Tok × Tok)} {X : Heap → Prop}
theorem push_eff {k c : Nat} {t u : Tok} {r : List Nat} {x d : Addr} {Q : Value → Shared → Prop} (C : PC g env L I St) (Z : QT qs T) (R : Rm A 2) (F : Fm w g true fdP.scope env s l (fun h => X h ∧ PQ env I L St qs T h)) (hX : XS env X)
    (hq : qs[k]? = some (x, d)) (hr : T[k]? = some r) (hrl : r.length ≤ 100)
    (h : ∀ s', Fm w g true fdP.scope env s' l (fun h => X h ∧ PQ env I L St qs (T.set k (r ++ [c])) h) → Q .none s') :
    wpAny (MM w) A (call (.ref 79) [.ref x, .str (tx []) t, .str (tx [c]) u]) Q E s := by
  obtain ⟨okx, okd, ps', a, hps', ht⟩ := F.pins.2.at hq hr
  have hpl : ps'.length = r.length := by rw [← hps', List.length_map]
  refine push_spec (s0 := g) F.wd F.gw R (Nat.le_trans C.gI (Nat.le_of_lt okx.2)) a (by simp [sizeLine]; omega) fun N s₂ G₂ K₂ hN hT a₂ => ?_
  have hI := C.lt _ F.pins.2.1
  have P₂ : Pile (okA env I) x d (r ++ [c]) s₂.heap := ⟨okx, okd, ps' ++ [(N, c, t, u)], by simpa using a₂, by simp [hps'], fun p hp => by
    rcases List.mem_append.mp hp with hp | hp
    · refine ⟨(ht p hp).1, ?_⟩
      obtain ⟨o, e, c, r'⟩ := (ht p hp).2
      exact ⟨o, K₂ _ _ (fun e2 => by have := (a.isP _ (e2 ▸ e)).1; rw [c] at this; cases this) e (fun t => absurd t (notTb_of_cls (by rw [c]; exact fun e => nomatch e))), c, r'⟩
    · simp at hp; subst hp
      exact ⟨⟨F.off hN, Nat.lt_of_lt_of_le hI hN⟩, hT⟩⟩
  exact h s₂ (F.stepB G₂ K₂ okx.1 ((stb_pq C).and hX.1) ⟨hX.2 _ _ _ a.isP K₂ F.pins.1, F.pins.2.kb C Z hq okx.2 a.isP K₂ P₂⟩)
/-- the object at piles[depth], its push looked up -/
theorem push_get {k : Nat} {t : Tok} {x d : Addr} {r : List Nat} {pa pb pc pos p2 : Pos} {args : List Expr} {pl : Sem Bool} {Q : Value → Shared → Prop} (C : PC g env L I St) (F : Fm w g true fdP.scope env s l (fun h => X h ∧ PQ env I L St qs T h)) (hd : lkp l "depth" = some (.int k t)) (hp : lkp l "piles" = some (.ref L))
    (hq : qs[k]? = some (x, d)) (hr : T[k]? = some r) (hk : k ≤ 100) (h : wpAny (MM w) A (callWith pos (.ref 79) [.ref x] (backTo pos (starEach args env)) []) Q E s)
    (he : eval (.Call (.Attribute (.Subscript (.Name "piles" pa) (.Name "depth" pb) pc) "push" p2) args [] pos) env = (do
      let ov ← eval (.Subscript (.Name "piles" pa) (.Name "depth" pb) pc) env
      standAt p2.atName
      let (f, first) ← holding [ov] (getMethod ov "push" pl)
      callWith pos f first (backTo pos (starEach args env)) [])) :
    wpAny (MM w) A (eval (.Call (.Attribute (.Subscript (.Name "piles" pa) (.Name "depth" pb) pc) "push" p2) args [] pos) env) Q E s := by
  obtain ⟨okx, okd, ps', a, hps', ht⟩ := F.pins.2.at hq hr
  refine r_meth (pl := pl) ?_ he
  refine r_sub (lkp_name F hp (lkp_name F hd (sub_ref F.pins.2.2.1 (by omega) (by rw [List.getElem?_map, hq]; rfl) ?_) (by kernel_rfl)) (by kernel_rfl))
  exact ac_method a F.Wd (f_push _) (T := "function") (by kernel_rfl) (by decide) (by decide +kernel) h
/-- piles[depth].push('', moved) -/
theorem p_push {k c : Nat} {t u : Tok} {r : List Nat} {Q : Flow → Shared → Prop} (C : PC g env L I St) (Z : QT qs T) (R : Rm A 2) (F : Fm w g true fdP.scope env s l (fun h => X h ∧ PQ env I L St qs T h)) (hX : XS env X)
    (hd : lkp l "depth" = some (.int k t)) (hp : lkp l "piles" = some (.ref L)) (hm : lkp l "moved" = some (.str (tx [c]) u)) (hk : k ≤ 100) (hr : T[k]? = some r) (hrl : r.length ≤ 100)
    (h : ∀ s', Fm w g true fdP.scope env s' l (fun h => X h ∧ PQ env I L St qs (T.set k (r ++ [c])) h) → Q .next s') : wpAny (MM w) A (exec (pB.getD 2 (.Pass default)) env) Q E s := by
  conv in pB.getD 2 _ => whnf
  obtain ⟨⟨x, d⟩, hq⟩ : ∃ q, qs[k]? = some q := ⟨_, List.getElem?_eq_getElem (by rw [Z.len]; exact (List.getElem?_eq_some_iff.mp hr).1)⟩
  refine e_expr F ?_ (by kernel_rfl) (by rfl)
  refine push_get (pl := ?pl) C F hd hp hq hr hk ?_ ?he
  case he => exact rfl
  refine cw_fn1 (fn_push _) (i_cons (r_str (xs := []) (by decide +kernel) F fun t₁ s₁ F₁ => ?_) (by kernel_rfl)) (by kernel_rfl)
  refine i_cons (lkp_name F₁ hm ?_ (by kernel_rfl)) (by kernel_rfl)
  exact i_nil ⟨F₁.Wd, push_eff C Z R F₁ hX hq hr hrl h⟩
/-- moved = ''.join([one for blank, one in off[:1]]) -/
theorem p_moved {Q : Flow → Shared → Prop} (R : Rm A 2) (C : PC g env L I St) (F : Fm w g true fdP.scope env s l (fun h => PrL O ps h ∧ PQ env I L St qs T h)) (hps : ∀ p ∈ ps, offE env p.1) (hO : offE env O) (ho : lkp l "off" = some (.ref O)) (hpl : ps.length ≤ 100)
    (h : ∀ u s', Fm w g true fdP.scope env s' (("moved", .str (tx (ps.map (·.2.1)).head?.toList) u) :: l) (fun h => PrL O ps h ∧ PQ env I L St qs T h) → Q .next s') : wpAny (MM w) A (exec (pB.getD 3 (.Pass default)) env) Q E s := by
  conv in pB.getD 3 _ => whnf
  refine e_assign ?_ (by kernel_rfl)
  refine r_meth (pl := ?pl) ?_ ?he
  case he => exact rfl
  refine r_str (xs := []) (by decide +kernel) F fun t₁ s₁ F₁ => ?_
  refine GM.join (cw_builtin (i_cons ?_ (by kernel_rfl)) (by kernel_rfl) (by kernel_rfl))
  refine comp_pairs R.handled ?_ (by kernel_rfl) (by intro _; rfl)
  refine r_slice (lkp_name F₁ ho (p_none (p_some (r_int F₁ fun t₂ s₂ F₂ => ?_))) (by kernel_rfl))
  refine slice_ls F₂ F₂.pins.1.1 .none (.int _ _) (by simp [sizeLine]; omega) (slicePick_upto' _ 1) fun b s₃ hb offb F₃ => ?_
  refine ⟨b, ps.take 1, _, _, _, _, _, rfl, F₃, ⟨by rw [List.map_take]; exact F₃.pins.1, fun p hp => F₃.pins.2.1.2 p (List.mem_of_mem_take hp)⟩, by simp [sizeLine]; omega, fun D s₄ hD offD F₄ => i_nil ?_⟩
  refine join_tx F₄ F₄.pins.1 (by simp [sizeLine]; cases ps <;> simp) fun t₅ s₅ F₅ => ?_
  have e : ((ps.take 1).map fun p => [p.2.1]).flatten = (ps.map (·.2.1)).head?.toList := by cases ps <;> rfl
  rw [e]
  have F₆ := F₅.weak ((stb_pq C).and (stb_prl hO hps)) fun x => x.2.2
  exact storeV F₆ (fun s' F' => h t₅ s' F') (by kernel_rfl)
end
section
variable {w : World} {A : Around} {E : Value → Shared → Prop} {g s : Shared} {env : Env} {L I : Nat} {St : Heap → Prop} {qs : List (Addr × Addr)} {T : List (List Nat)} {l : List (Str × Value)} {O : Addr} {ps : List (Addr × Nat × Tok × Tok)}
theorem turns_prl (hh : A.handled = none) {I b : Addr} {ps : List (Addr × Nat × Tok × Tok)} (hI : b ≠ I ∧ ∀ p ∈ ps, p.1 ≠ I) {elts : List Expr} {k : Nat} {pos : Pos} :
    KTurns PySem.Challenge.pw_xl0004_01 w A (.Tuple elts k pos) I (I :: b :: ps.map (·.1)) [I] ps.length (fun i v _ => ∃ p, ps[i]? = some p ∧ v = .ref p.1)
      (fun i v h => (∃ p, ps[i]? = some p ∧ v = .ref p.1) ∧ h.IsListIter I b (i + 1) ∧ PrL b ps h) (fun i h => h.IsListIter I b i ∧ PrL b ps h) where
  sub := fun b hb => by simp at hb; simp [hb]
  frame := fun _ _ _ st hk => ⟨st.1.at fun o e => hk I (by simp) o e, st.2.kp fun c o e hc => hk c (by rcases hc with rfl | ⟨p, hp, rfl⟩ <;> simp; exact .inr (.inr ⟨_, _, _, hp⟩)) o e⟩
  item := fun i s Q E hi st hQ => by
    obtain ⟨p, hp⟩ : ∃ p, ps[i]? = some p := ⟨_, List.getElem?_eq_getElem hi⟩
    refine wpAny_pyNext_list_item st.1 st.2.1.isList (x := .ref p.1) (by simp [hp]) fun h' hit' hs' => ?_
    exact hQ _ h' s.toks ⟨⟨p, hp, rfl⟩, hit', st.2.kp fun c o e hc => hs'.extBut _ _ (by rcases hc with rfl | ⟨q, hq, rfl⟩; exact hI.1; exact hI.2 q hq) e⟩ fun b o hb e => hs'.extBut b o (fun h => hb (by simp [h])) e
  go := fun i v s Q _ hm hQ => by
    obtain ⟨⟨p, hp, rfl⟩, hit, hpr⟩ := hm
    exact wpAny_letOwnedTupleGo_listiter hit (hQ s.heap ⟨p, hp, rfl⟩ ⟨hit, hpr⟩ fun _ _ _ e => e)
  done := fun s Q E st hQ => wpAny_pyNext_list_end hh st.1 st.2.1.isList (by simp) fun h' he' => hQ h' s.toks fun b o hb e => he' b o (fun h => hb (by simp [h])) e

/-- a new object that is none of ours is written -/
theorem Fm.wr1 {sc : Scope} {o : Bool} {P P' : Heap → Prop} {I : Addr} (F : Fm w g o sc env s l P) (hI : g.heap.objs.size ≤ I) (hoff : offE env I) {h' : Heap} (k : ∀ b ob, b ≠ I → s.heap.get? b = some ob → h'.get? b = some ob) (tk : Nat) (hst : Stb env P') (hP : P' h') :
    Fm w g o sc env { s with heap := h', toks := tk } l P' := F.wstep (wr := [I]) (fun b hb => by simp at hb; subst hb; exact ⟨hI, hoff⟩) (fun b ob hb e => k b ob (by simpa using hb) e) tk hst hP
/-- what the inner loop keeps between its turns -/
noncomputable def RJ (w : World) (g : Shared) (env : Env) (L I : Nat) (St : Heap → Prop) (qs : List (Addr × Addr)) (T : List (List Nat)) (k : Nat) (t : Tok) (u : List Nat) (ds : List Nat) (i : Nat) (s : Shared) : Prop :=
  ∃ l', lkp l' "depth" = some (.int k t) ∧ lkp l' "piles" = some (.ref L) ∧ (∃ t, lkp l' "moved" = some (.str (tx u) t)) ∧ Fm w g true fdP.scope env s l' (PQ env I L St qs (T.set k ((T.getD k []) ++ ds.take i)))
theorem PQ.wr {I' : Nat} {h h' : Heap} (C : PC g env L I St) (p : PQ env I L St qs T h) (hI' : I < I') {a i : Nat} (hit : h.IsListIter I' a i) (k : ∀ b ob, b ≠ I' → h.get? b = some ob → h'.get? b = some ob) : PQ env I L St qs T h' := by
  refine ⟨C.st _ _ (fun o e => k I o (Nat.ne_of_lt hI') e) p.1, p.2.1.at fun o e _ => k L o (Nat.ne_of_lt (Nat.lt_trans C.hL.1 hI')) e, p.2.2.kp fun b o _ e _ d => k b o (fun e2 => ?_) e⟩
  obtain ⟨oi, e3, c3, d3⟩ := hit
  rw [e2, e3] at e; cases e
  rcases d with d | ⟨es, n, d⟩ | d
  · rw [c3] at d; cases d
  · rw [d3] at d; cases d
  · rw [c3] at d; exact absurd d (by decide)
/-- for blank, one in off[1:]: piles[depth].push(blank, one) -/
theorem p_rest {k : Nat} {t : Tok} {u : List Nat} {r : List Nat} {Q : Flow → Shared → Prop} (C : PC g env L I St) (Z : QT qs T) (R : Rm A 2) (F : Fm w g true fdP.scope env s l (fun h => PrL O ps h ∧ PQ env I L St qs T h)) (hps : ∀ p ∈ ps, offE env p.1)
    (hd : lkp l "depth" = some (.int k t)) (hp : lkp l "piles" = some (.ref L)) (hm : ∃ t, lkp l "moved" = some (.str (tx u) t)) (ho : lkp l "off" = some (.ref O)) (hk : k ≤ 100) (hr : T[k]? = some r) (hrl : r.length + ps.length ≤ 100)
    (h : ∀ l' s', lkp l' "depth" = some (.int k t) → lkp l' "piles" = some (.ref L) → (∃ t, lkp l' "moved" = some (.str (tx u) t)) → Fm w g true fdP.scope env s' l' (PQ env I L St qs (T.set k (r ++ (ps.map (·.2.1)).tail))) → Q .next s') :
    wpAny (MM w) A (exec (pB.getD 4 (.Pass default)) env) Q E s := by
  conv in pB.getD 4 _ => whnf
  obtain ⟨⟨x, d⟩, hq⟩ : ∃ q, qs[k]? = some q := ⟨_, List.getElem?_eq_getElem (by rw [Z.len]; exact (List.getElem?_eq_some_iff.mp hr).1)⟩
  refine e_for ?_ (by intro _; rfl)
  refine r_slice (lkp_name F ho (p_some (r_int F fun t₂ s₂ F₂ => p_none ?_)) (by kernel_rfl))
  refine slice_ls F₂ F₂.pins.1.1 (.int _ _) .none (by simp [sizeLine]; omega) (slicePick_from' _ 1) fun b s₃ hb offb F₃ => ?_
  have hpl : PrL b (ps.drop 1) s₃.heap := ⟨by rw [List.map_drop]; exact F₃.pins.1, fun p hp => F₃.pins.2.1.2 p (List.mem_of_mem_drop hp)⟩
  have hps1 : ∀ p ∈ ps.drop 1, offE env p.1 := fun p hp => hps p (List.mem_of_mem_drop hp)
  refine wpAny_pyIter_list hpl.1.isList ?_
  have hI₂ := C.lt _ F₃.pins.2.2.1
  have offI := F₃.off (Nat.le_refl _)
  have hgI : g.heap.objs.size ≤ s₃.heap.objs.size := F₃.gw.size
  have F₄ := (F₃.push { cls := .type "list_iterator", data := .fields #[.ref b, .int 0 0] } s₃.toks).weak (R := PQ env I L St qs T) (stb_pq C) fun x => x.2.2
  have hlt := hpl.lt
  generalize hI' : s₃.heap.objs.size = I' at *
  have hT1 : T.getD k [] = r := by rw [List.getD_eq_getElem?_getD, hr]; rfl
  have hTs : T.set k (T.getD k [] ++ ((ps.drop 1).map (·.2.1)).take 0) = T := by
    rw [List.take_zero, List.append_nil, hT1]
    apply List.ext_getElem?
    intro j
    rw [List.getElem?_set]
    split
    · rename_i e; subst e; split
      · exact hr.symm
      · rename_i h; exact absurd (List.getElem?_eq_some_iff.mp hr).1 h
    · rfl
  have hX : ∀ i, XS env (fun h => h.IsListIter I' b i ∧ PrL b (ps.drop 1) h) := fun i => (xs_iter offI C.h107 hgI).and (xs_prl offb hps1)
  refine ⟨I', _, _, (ps.drop 1).length, _, _, _, RJ w g env L I St qs T k t u ((ps.drop 1).map (·.2.1)), rfl, turns_prl R.handled (b := b) (ps := ps.drop 1) ⟨Nat.ne_of_lt hlt.1, fun p hp => Nat.ne_of_lt (hlt.2 p hp)⟩,
    ⟨⟨_, Heap.get?_push_at hI'.symm rfl, rfl, rfl⟩, hpl.kp fun c o e _ => Heap.get?_push_of_some _ e⟩, ⟨l, hd, hp, hm, by rw [hTs]; exact F₄⟩, ?_, ?_⟩
  · rintro i s₅ v h₅ tk E' hi ⟨l', hd', hp', hm', F₅⟩ ⟨hit, hpr⟩ ⟨p, hpi, rfl⟩ ⟨hit₅, hpr₅⟩ hk₅
    have hpm := List.mem_of_getElem? hpi
    have hk5 : ∀ c ob, c ≠ I' → s₅.heap.get? c = some ob → h₅.get? c = some ob := fun c ob hc e => hk₅ c ob (by simpa using hc) e
    rw [hT1] at F₅
    have F₆ := F₅.wr1 (I := I') hgI offI hk5 tk (P' := fun h => (h.IsListIter I' b (i + 1) ∧ PrL b (ps.drop 1) h) ∧ PQ env I L St qs (T.set k (r ++ ((ps.drop 1).map (·.2.1)).take i)) h) ((stb_pq C).and (hX _).1) ⟨⟨hit₅, hpr₅⟩, F₅.pins.wr C hI₂ hit hk5⟩
    refine wpAny_assign_Tuple R.handled (hpr₅.2 p hpm) rfl rfl fun h₆ he₆ => ?_
    have F₇ := F₆.wr1 (I := h₅.objs.size) F₆.gw.size (F₆.off (Nat.le_refl _)) (fun c ob hc e => he₆ c ob hc e) tk F₆.stb (F₆.stb _ _ (fun c ob hc e _ => he₆ c ob (Nat.ne_of_lt (Heap.lt_size e)) e) F₆.pins)
    refine assignInOrder_cons (wpAny_assign_Name (storeV F₇ (fun s₈ F₈ => ?_) (by kernel_rfl)))
    refine assignInOrder_cons (wpAny_assign_Name (storeV F₈ (fun s₉ F₉ => assignInOrder_nil ?_) (by kernel_rfl)))
    have hd9 := lkp_there (v := .int k t) (y := "one") (u := .str (tx [p.2.1]) p.2.2.2) (x := "depth") (by kernel_rfl) (lkp_there (y := "blank") (u := .str (tx []) p.2.2.1) (by kernel_rfl) hd')
    have hp9 := lkp_there (v := .ref L) (y := "one") (u := .str (tx [p.2.1]) p.2.2.2) (x := "piles") (by kernel_rfl) (lkp_there (y := "blank") (u := .str (tx []) p.2.2.1) (by kernel_rfl) hp')
    have hr9 : (T.set k (r ++ ((ps.drop 1).map (·.2.1)).take i))[k]? = some (r ++ ((ps.drop 1).map (·.2.1)).take i) := List.getElem?_set_self (List.getElem?_eq_some_iff.mp hr).1
    have hln : (((ps.drop 1).map (·.2.1)).take i).length ≤ ps.length := by simp; omega
    refine e_cons (e_expr F₉ ?_ (by kernel_rfl) (by rfl))
    refine push_get (pl := ?pl) C F₉ hd9 hp9 hq hr9 hk ?_ ?he
    case he => exact rfl
    refine cw_fn1 (fn_push _) (i_cons (lkp_name F₉ (lkp_there (by kernel_rfl) (lkp_here _ _ _)) ?_ (by kernel_rfl)) (by kernel_rfl)) (by kernel_rfl)
    refine i_cons (lkp_name F₉ (lkp_here _ _ _) ?_ (by kernel_rfl)) (by kernel_rfl)
    refine i_nil ⟨F₉.Wd, push_eff C Z.set R F₉ (hX _) hq hr9 (by rw [List.length_append]; omega) fun s' F' => e_nil ?_⟩
    obtain ⟨tm, hm'⟩ := hm'
    refine ⟨rfl, ⟨_, hd9, hp9, ⟨tm, lkp_there (by kernel_rfl) (lkp_there (by kernel_rfl) hm')⟩, ?_⟩, F'.pins.1⟩
    rw [hT1, List.take_add_one, List.getElem?_map, hpi]
    rw [List.set_set, List.append_assoc] at F'
    exact F'.weak (stb_pq C) fun x => x.2
  · rintro s₅ h₅ tk ⟨l', hd', hp', hm', F₅⟩ ⟨hit, hpr⟩ hk₅
    have hk5 : ∀ c ob, c ≠ I' → s₅.heap.get? c = some ob → h₅.get? c = some ob := fun c ob hc e => hk₅ c ob (by simpa using hc) e
    rw [hT1, List.take_of_length_le (by simp)] at F₅
    rw [← List.drop_one, ← List.map_drop] at h
    exact h l' _ hd' hp' hm' (F₅.wr1 (I := I') hgI offI hk5 tk (stb_pq C) (F₅.pins.wr C hI₂ hit hk5))
end
section
variable {w : World} {A : Around} {E : Value → Shared → Prop} {g s : Shared} {env : Env} {L I : Nat} {St : Heap → Prop} {qs : List (Addr × Addr)} {l : List (Str × Value)}
theorem set_mid {α : Type} (a : List α) (x y : α) (b : List α) : (a ++ x :: b).set a.length y = a ++ y :: b := by simp
theorem get_mid {α : Type} (a : List α) (x : α) (b : List α) : (a ++ x :: b)[a.length]? = some x := by rw [List.getElem?_append_right (Nat.le_refl _), Nat.sub_self]; rfl
/-- what stands between two turns of the while -/
structure WS (w : World) (g : Shared) (env : Env) (L I : Nat) (St : Heap → Prop) (c : Nat) (Tg : List (List Nat)) (done todo : List (List Nat)) (mv : Option Nat) (s : Shared) : Prop where
  fr : ∃ qs l t u, QT qs (done ++ todo) ∧ lkp l "depth" = some (.int done.length t) ∧ lkp l "piles" = some (.ref L) ∧ lkp l "moved" = some (.str (tx mv.toList) u) ∧ Fm w g true fdP.scope env s l (PQ env I L St qs (done ++ todo))
  tg : done ++ insO todo mv = Tg
  srt : ∀ r ∈ todo, Srt r
  len : ∀ r ∈ todo, r.length ≤ c
  n : (done ++ todo).length + mv.toList.length ≤ c + 1
theorem p_turn {c m : Nat} {Tg done todo : List (List Nat)} {Q : Flow → Shared → Prop} (C : PC g env L I St) (R : Rm A 6) (hc : c ≤ 40) (W : WS w g env L I St c Tg done todo (some m) s)
    (h : ∀ done' todo' mv' s', todo'.length + 1 ≤ todo.length ∨ mv' = none → WS w g env L I St c Tg done' todo' mv' s' → Q .next s') : wpAny (MM w) A (execs pB env) Q E s := by
  obtain ⟨⟨qs, l, t, u, Z, hd, hp, hm, F⟩, tg, srt, len, hn⟩ := W
  simp only [Option.toList, List.length_cons, List.length_nil] at hn
  conv in pB => whnf
  refine e_cons (p_grow C Z (R.less (by decide)) F hd hp (by simp) (by omega) fun qs T' s₁ Z₁ hT F₁ => ?_)
  have hTl : T'.length ≤ c + 1 := by rw [hT]; split <;> simp at hn ⊢ <;> omega
  obtain ⟨r, rest, hT, hi, hr, hrl, hrs, hrl', hlt⟩ : ∃ r rest, T' = done ++ r :: rest ∧ insO todo (some m) = insO (r :: rest) (some m) ∧ Srt r ∧ r.length ≤ c ∧ (∀ q ∈ rest, Srt q) ∧ (∀ q ∈ rest, q.length ≤ c) ∧ ((r.drop (cutK r m)).head? = none ∨ rest.length + 1 ≤ todo.length) := by
    cases todo with
    | nil => exact ⟨[], [], by rw [hT, if_pos (by simp)]; simp, rfl, .nil, by simp, (fun _ h => nomatch h), (fun _ h => nomatch h), .inl rfl⟩
    | cons r rest => exact ⟨r, rest, by rw [hT, if_neg (by simp)], rfl, srt r (List.mem_cons_self ..), len r (List.mem_cons_self ..), fun q hq => srt q (List.mem_cons_of_mem _ hq), fun q hq => len q (List.mem_cons_of_mem _ hq), .inr (Nat.le_refl _)⟩
  subst hT
  have hk : done.length ≤ 100 := by simp at hn; omega
  refine e_cons (p_pop C Z₁ R F₁ hd hp hm hk (get_mid ..) (by omega) fun O ps s₂ hps hpo hO F₂ => ?_)
  rw [set_mid] at F₂
  have Z₂ : QT qs (done ++ r.take (cutK r m) :: rest) := by have := Z₁.set (k := done.length) (r := r.take (cutK r m)); rwa [set_mid] at this
  have hpl : ps.length ≤ c := by have := congrArg List.length hps; simp at this; omega
  refine e_cons (p_push C Z₂ (R.less (by decide)) F₂ (xs_prl hO hpo) (lkp_there (by kernel_rfl) hd) (lkp_there (by kernel_rfl) hp) (lkp_there (by kernel_rfl) hm) hk (get_mid ..) (by simp; omega) fun s₃ F₃ => ?_)
  rw [set_mid] at F₃
  have Z₃ : QT qs (done ++ (r.take (cutK r m) ++ [m]) :: rest) := by have := Z₂.set (k := done.length) (r := r.take (cutK r m) ++ [m]); rwa [set_mid] at this
  refine e_cons (p_moved (R.less (by decide)) C F₃ hpo hO (lkp_here _ _ _) (by omega) fun u₄ s₄ F₄ => ?_)
  rw [hps] at F₄
  have hcl := cutK_le r m
  have hpe : ps.length = r.length - cutK r m := by have := congrArg List.length hps; simpa using this
  refine e_cons (p_rest C Z₃ (R.less (by decide)) F₄ hpo (lkp_there (by kernel_rfl) (lkp_there (by kernel_rfl) hd)) (lkp_there (by kernel_rfl) (lkp_there (by kernel_rfl) hp)) ⟨u₄, lkp_here _ _ _⟩ (lkp_there (by kernel_rfl) (lkp_here _ _ _)) hk (get_mid ..) (by simp; omega) fun l₅ s₅ hd₅ hp₅ hm₅ F₅ => ?_)
  rw [set_mid, hps] at F₅
  obtain ⟨u₅, hm₅⟩ := hm₅
  refine e_cons (e_assign ?_ (by kernel_rfl))
  refine v_bin (lkp_name F₅ hd₅ (r_int F₅ fun t₆ s₆ F₆ => o_add F₆ fun t₇ s₇ F₇ => ?_) (by kernel_rfl))
  refine storeV F₇ (fun s₈ F₈ => ?_) (by kernel_rfl)
  have e : (done ++ [r.take (cutK r m) ++ [m] ++ (r.drop (cutK r m)).tail]) ++ rest = done ++ (r.take (cutK r m) ++ [m] ++ (r.drop (cutK r m)).tail) :: rest := by simp
  have Z₈ : QT qs ((done ++ [r.take (cutK r m) ++ [m] ++ (r.drop (cutK r m)).tail]) ++ rest) := by rw [e]; have := Z₃.set (k := done.length) (r := r.take (cutK r m) ++ [m] ++ (r.drop (cutK r m)).tail); rwa [set_mid] at this
  refine e_nil (h (done ++ [r.take (cutK r m) ++ [m] ++ (r.drop (cutK r m)).tail]) rest ((r.drop (cutK r m)).head?) s₈ (hlt.symm) ⟨⟨qs, ("depth", .int (done.length + 1 : Int) t₇) :: l₅, t₇, u₅, Z₈, ?_, lkp_there (by kernel_rfl) hp₅, lkp_there (by kernel_rfl) hm₅, ?_⟩, ?_, hrs, hrl', ?_⟩)
  · rw [lkp_here]; simp
  · rw [e]; exact F₈
  · rw [← tg, hi, insO_cons hr]; simp
  · rcases hlt with h0 | h1
    · rw [h0]; simp at hTl ⊢; omega
    · have : ((r.drop (cutK r m)).head?).toList.length ≤ 1 := by cases (r.drop (cutK r m)).head? <;> simp
      simp only [List.length_append, List.length_cons, List.length_nil] at hn ⊢; omega
end
section
variable {w : World} {A : Around} {E : Value → Shared → Prop} {g s : Shared} {env : Env} {L I : Nat} {St : Heap → Prop} {qs : List (Addr × Addr)} {l : List (Str × Value)}
/-- an iteration whose only object is its iterator -/
noncomputable def Iter1 (w : World) (A : Around) (xv : Value) (s : Shared) (n : Nat) (Pv : Nat → Value → Prop) : Prop := ∀ (Q : Value → Shared → Prop) E, (∀ I St s₂, Walks PySem.Challenge.pw_xl0004_01 w A I [I] [I] n Pv St → I = s.heap.objs.size → St 0 s₂.heap → (∀ i h, St i h → I < h.objs.size) → Gw s s₂ → Q (.ref I) s₂) →
    wpAny (MM w) A (pyIter xv) Q E s
theorem iter1_tx {xs : List Nat} {t : Tok} (hh : A.handled = none) : Iter1 w A (.str (tx xs) t) s xs.length (fun i v => ∃ c u, xs[i]? = some c ∧ v = .str (tx [c]) u) := by
  intro Q E h
  have hP : SignAt (tx xs) = fun i v => ∃ c u, xs[i]? = some c ∧ v = .str (tx [c]) u := by
    funext i v; simp [SignAt, tx]
  have hn : (tx xs).cps.size = xs.length := by simp [tx]
  cases ha : (tx xs).cps.all (· < 128)
  · refine wpAny_pyIter_wide ha ?_
    have W := Walks.strWide (prog := PySem.Challenge.pw_xl0004_01) (w := w) hh s.heap.objs.size (tx xs) t
    rw [hP, hn] at W
    exact h _ _ _ W rfl ⟨_, Heap.get?_push_size _ rfl, rfl, rfl⟩ (fun i h st => let ⟨_, e, _⟩ := st; Heap.lt_size e) ((Gw.refl s).push _ s.toks)
  · refine wpAny_pyIter_ascii ha ?_
    have W := Walks.strAscii (prog := PySem.Challenge.pw_xl0004_01) (w := w) hh s.heap.objs.size (tx xs) t
    rw [hP, hn] at W
    exact h _ _ _ W rfl ⟨_, Heap.get?_push_size _ rfl, rfl, rfl⟩ (fun i h st => let ⟨_, e, _⟩ := st; Heap.lt_size e) ((Gw.refl s).push _ s.toks)
/-- the while -/
theorem p_while {c m : Nat} {Tg T : List (List Nat)} {t u : Tok} {Q : Flow → Shared → Prop} {test : Expr} {pos : Pos} (C : PC g env L I St) (R : Rm A 6) (hc : c ≤ 40) (Z : QT qs T) (F : Fm w g true fdP.scope env s l (PQ env I L St qs T)) (hd : lkp l "depth" = some (.int 0 t)) (hp : lkp l "piles" = some (.ref L)) (hm : lkp l "moved" = some (.str (tx [m]) u))
    (hT : ins T m = Tg) (hs : ∀ r ∈ T, Srt r) (hl : ∀ r ∈ T, r.length ≤ c) (hn : T.length ≤ c) (ht : ∀ l' s' x u Q' E' P', lkp l' "moved" = some (.str (tx x) u) → Fm w g true fdP.scope env s' l' P' → (∀ s'', Fm w g true fdP.scope env s'' l' P' → Q' (!decide (x = [])) s'') → wpAny (MM w) A (isTrue test env (eval test env)) Q' E' s')
    (h : ∀ qs' l' s', QT qs' Tg → lkp l' "piles" = some (.ref L) → Fm w g true fdP.scope env s' l' (PQ env I L St qs' Tg) → Q .next s') : wpAny (MM w) A (exec (.While test pB [] pos) env) Q E s := by
  refine e_while (fun n s => ∃ done todo mv, WS w g env L I St c Tg done todo mv s ∧ n = (match mv with | none => 0 | some _ => todo.length + 2)) _
    ⟨[], T, some m, ⟨⟨qs, l, t, u, Z, hd, hp, hm, F⟩, hT, hs, hl, by simp; omega⟩, rfl⟩ ?_
  rintro n s E' ⟨done, todo, mv, W, rfl⟩
  obtain ⟨qs, l, t, u, Z, hd, hp, hm, F⟩ := W.fr
  refine ht l s mv.toList u _ _ _ hm F fun s₂ F₂ => ?_
  have W₂ : WS w g env L I St c Tg done todo mv s₂ := ⟨⟨qs, l, t, u, Z, hd, hp, hm, F₂⟩, W.tg, W.srt, W.len, W.n⟩
  cases mv with
  | none =>
    refine wh_f (by simp) ?_
    have e : done ++ todo = Tg := W.tg
    rw [e] at Z F₂
    exact h qs l s₂ Z hp F₂
  | some m =>
    refine wh_t (by simp) (p_turn C R hc W₂ fun done' todo' mv' s' hlt W' => ⟨rfl, _, ?_, done', todo', mv', W', rfl⟩)
    cases mv' with
    | none => simp
    | some m' =>
      rcases hlt with h1 | h1
      · simp; omega
      · cases h1
end
theorem rins_len (r : List Nat) (x : Nat) : (rins r x).1.length ≤ r.length + 1 := by
  induction r with
  | nil => simp [rins]
  | cons a r ih =>
    unfold rins
    split
    · simp
    · simp; exact ih
theorem ins_len {c : Nat} : ∀ (T : List (List Nat)) (x : Nat), (∀ r ∈ T, r.length ≤ c) → (∀ r ∈ ins T x, r.length ≤ c + 1) ∧ (ins T x).length ≤ T.length + 1
  | [], x, _ => by simp [ins]
  | r :: T, x, h => by
    have h1 := rins_len r x
    have h2 := h r (List.mem_cons_self ..)
    have hT : ∀ q ∈ T, q.length ≤ c := fun q hq => h q (List.mem_cons_of_mem _ hq)
    unfold ins
    cases (rins r x).2 with
    | none => exact ⟨fun q hq => by rcases List.mem_cons.mp hq with rfl | hq; omega; exact Nat.le_succ_of_le (hT q hq), by simp⟩
    | some b =>
      have ih := ins_len T b hT
      exact ⟨fun q hq => by rcases List.mem_cons.mp hq with rfl | hq; omega; exact ih.1 q hq, by simpa using ih.2⟩
theorem insW_snoc (w : List Nat) (x : Nat) : insW [] (w ++ [x]) = ins (insW [] w) x := by simp [insW]
theorem insW_len (w : List Nat) : (∀ r ∈ insW [] w, r.length ≤ w.length) ∧ (insW [] w).length ≤ w.length := by
  have key : ∀ (v : List Nat) (u : List Nat), ((∀ r ∈ insW [] u, r.length ≤ u.length) ∧ (insW [] u).length ≤ u.length) → (∀ r ∈ insW [] (u ++ v), r.length ≤ (u ++ v).length) ∧ (insW [] (u ++ v)).length ≤ (u ++ v).length := by
    intro v
    induction v with
    | nil => intro u h; simpa using h
    | cons x v ih =>
      intro u h
      have := ih (u ++ [x]) (by
        rw [insW_snoc]
        obtain ⟨a, b⟩ := ins_len (insW [] u) x h.1
        exact ⟨by simpa using a, by simp; omega⟩)
      simpa using this
  simpa using key w [] ⟨(fun _ h => nomatch h), Nat.le_refl _⟩

section
variable {w : World} {A : Around} {E : Value → Shared → Prop} {s : Shared}
noncomputable def PJ (w : World) (g : Shared) (env : Env) (L I : Nat) (St : Nat → Heap → Prop) (xs : List Nat) (i : Nat) (s : Shared) : Prop := ∃ qs l, QT qs (insW [] (xs.take i)) ∧ lkp l "piles" = some (.ref L) ∧ Fm w g true fdP.scope env s l (PQ env I L (St i) qs (insW [] (xs.take i)))
theorem r_listN {pos : Pos} {Q : Value → Shared → Prop} {g : Shared} {o : Bool} {sc : Scope} {env : Env} {l : List (Str × Value)} {P : Heap → Prop} (F : Fm w g o sc env s l P)
    (h : ∀ a s', s.heap.objs.size ≤ a → offE env a → Fm w g o sc env s' l (fun h => LN a [] h ∧ P h) → Q (.ref a) s') : wpAny (MM w) A (eval (.List [] pos) env) Q E s :=
  wpAny_List (i_nil ⟨by simp [sizeLine], h _ _ (Nat.le_refl _) (F.off (Nat.le_refl _)) ((F.push _ s.toks).pin (stb_ln (F.off (Nat.le_refl _))) ⟨0, Heap.get?_push_size _ rfl⟩)⟩)
theorem piles_spec {xs : List Nat} {t : Tok} {Q : Value → Shared → Prop} (W : Wd w s.heap) (R : Rm A 7) (hx : xs.length ≤ 30)
    (h : ∀ L qs s', Gw s s' → LN L (qs.map fun q => .ref q.1) s'.heap → PilesAt (fun _ => True) qs (insW [] xs) s'.heap → qs.length = (insW [] xs).length → Q (.ref L) s') : wpAny (MM w) A (call (.ref 220) [.str (tx xs) t]) Q E s := by
  refine callF (body := fB (st 22)) (binds := [("figures", .str (tx xs) t)]) ["figures"] W R.lim (fn_piles _) (by kernel_rfl) (by kernel_rfl) (by kernel_rfl) (by kernel_rfl) (by kernel_rfl) rfl (by decide +kernel) (by decide +kernel) (by kernel_rfl) ⟨rfl, rfl⟩ ?_
  intro s₁ env henv F
  have R1 := R.deeper env
  have h107 := W.tab.lt
  conv in fB _ => whnf
  refine e_cons (e_assign (r_listN F fun L s₂ hL offL F₂ => ?_) (by kernel_rfl))
  refine storeV F₂ (fun s₃ F₃ => ?_) (by kernel_rfl)
  have hgL : s.heap.objs.size ≤ L := Nat.le_trans F.gw.size hL
  have hL3 : L < s₃.heap.objs.size := F₃.pins.1.ls.lt
  refine e_cons (e_for (lkp_name F₃ (lkp_there (by kernel_rfl) (lkp_here _ _ _)) (iter1_tx R1.handled _ _ fun I St s₄ Wk hI hst hlt G₄ => ?_) (by kernel_rfl)) (by intro _; rfl))
  have hI3 : s₃.heap.objs.size ≤ I := Nat.le_of_eq hI.symm
  have offI : offE env I := F₃.off hI3
  have C : ∀ i, PC s env L I (St i) := fun i => ⟨h107, ⟨Nat.lt_of_lt_of_le hL3 hI3, hgL, offL⟩, offI, fun h h' k => fun x => Wk.frame i h h' x (fun b hb o e => by simp at hb; subst hb; exact k o e), hlt i⟩
  have F₄ := (F₃.gws G₄).weak (R := PQ env I L (St 0) [] []) (stb_pq (C 0)) fun x => ⟨hst, x.1, fun _ _ _ h => nomatch h⟩
  refine ⟨I, [I], [I], xs.length, _, _, St, PJ w s env L I St xs, rfl, turns_of Wk, hst, ⟨[], _, ⟨rfl, .nil⟩, lkp_here _ _ _, F₄⟩, ?_, ?_⟩
  · rintro i s₅ v h₅ tk E' hi ⟨qs, l, Z, hp, F₅⟩ hst₅ ⟨c, u, hc, rfl⟩ hst' hk₅
    have hk5 : ∀ c ob, c ≠ I → s₅.heap.get? c = some ob → h₅.get? c = some ob := fun c ob hc e => hk₅ c ob (by simpa using hc) e
    have F₆ := F₅.wr1 (I := I) (C 0).gI offI hk5 tk (stb_pq (C (i + 1))) ⟨hst', F₅.pins.2.1.at fun o e _ => hk5 L o (Nat.ne_of_lt (C 0).hL.1) e, F₅.pins.2.2.kp fun b o hb e _ _ => hk5 b o (Nat.ne_of_gt hb.2) e⟩
    refine wpAny_assign_Name (storeV F₆ (fun s₇ F₇ => ?_) (by kernel_rfl))
    refine e_cons (e_assign (lkp_name F₇ (lkp_here _ _ _) (storeV F₇ (fun s₈ F₈ => ?_) (by kernel_rfl)) (by kernel_rfl)) (by kernel_rfl))
    refine e_cons (e_assign (r_int F₈ fun t₉ s₉ F₉ => storeV F₉ (fun s₁ F₁ => ?_) (by kernel_rfl)) (by kernel_rfl))
    obtain ⟨b1, b2⟩ := insW_len (xs.take i)
    have hlt : (xs.take i).length ≤ i := by simp; omega
    have hT : ins (insW [] (xs.take i)) c = insW [] (xs.take (i + 1)) := by rw [List.take_add_one, hc]; exact (insW_snoc _ _).symm
    refine e_cons (p_while (c := i) (C (i + 1)) (R1.less (by decide)) (by omega) Z F₁ (lkp_here _ _ _) (lkp_there (by kernel_rfl) (lkp_there (by kernel_rfl) (lkp_there (by kernel_rfl) hp))) (lkp_there (by kernel_rfl) (lkp_here _ _ _)) hT
      (insW_srt _ _ fun _ h => nomatch h) (fun r hr => Nat.le_trans (b1 r hr) hlt) (Nat.le_trans b2 hlt) ?_ fun qs' l' s' Z' hp' F' => e_nil ⟨rfl, ⟨qs', l', Z', hp', F'⟩, F'.pins.1⟩)
    intro l' s' x u Q' E' P' hm' F' k
    refine t_cmp (lkp_name F' hm' (r_str (xs := []) (by decide +kernel) F' fun t₂ s₂ F₂ => ne_tx (wpAny_truthy_bool (k s₂ F₂))) (by kernel_rfl)) (by kernel_rfl)
  · rintro s₅ h₅ tk ⟨qs, l, Z, hp, F₅⟩ hst₅ hk₅
    rw [List.take_length] at Z F₅
    have hk5 : ∀ c ob, c ≠ I → s₅.heap.get? c = some ob → h₅.get? c = some ob := fun c ob hc e => hk₅ c ob (by simpa using hc) e
    have F₆ := F₅.wr1 (I := I) (P' := fun h => LN L (qs.map fun q => .ref q.1) h ∧ PilesAt (okA env I) qs (insW [] xs) h) (C 0).gI offI hk5 tk ((stb_piles fun _ hb => hb.1).and (stb_ln offL)) ⟨F₅.pins.2.1.at fun o e _ => hk5 L o (Nat.ne_of_lt (C 0).hL.1) e, F₅.pins.2.2.kp fun b o hb e _ _ => hk5 b o (Nat.ne_of_gt hb.2) e⟩
    refine e_cons (e_ret (lkp_name F₆ hp ?_ (by kernel_rfl)))
    exact h L qs _ F₆.gw F₆.pins.1 (fun i q r a b => let ⟨_, _, ps, x, y, z⟩ := F₆.pins.2 i q r a b; ⟨trivial, trivial, ps, x, y, fun p hp => ⟨trivial, (z p hp).2⟩⟩) Z.len
end
/-! ## parse229 -/

noncomputable def PEER : List Nat := [112, 101, 101, 114]
theorem parse_body {w : World} {A : Around} {E : Value → Shared → Prop} {s : Shared} {env : Env} {g : Shared} {l : List (Str × Value)} {Q : Flow → Shared → Prop} {x tl : List Nat} {rows : List (List Nat)} {d m q : Nat} {t tp tq : Tok} {p : Addr}
    (F : Fm w g true (fS (st 14)) env s l (fun _ => True)) (hh : A.handled = none) (hr : lkp l "resp" = some (.str (tx x) t)) (hp : lkp l "peer" = some (.ref p)) (hpt : s.heap.IsTuple p #[.str (tx PEER) tp, .int 21 tq]) (hop : offE env p)
    (hx : x = 50 :: 50 :: d :: 32 :: 40 :: (m :: tl ++ [41])) (hd : d = 56 ∨ d = 57) (h41 : 41 ∉ m :: tl) (hlen : x.length ≤ 1000) (hq : (m :: tl)[tl.length]? = some q)
    (hk : Builtin.Str.strKind (tx [m]) = 1) (hsp : q = m → tl = (rows.map (· ++ [m])).flatten ∧ (∀ r ∈ rows, m ∉ r) ∧ rows.length ≤ 100 ∧ ∀ r ∈ rows, r ≠ [] ∧ r.length ≤ 600 ∧ ∀ c ∈ r, 48 ≤ c ∧ c ≤ 57)
    (kE : ∀ C s' l' P, Fm w g true (fS (st 14)) env s' l' P → ((C = 160 ∧ d = 56) ∨ (C = 172 ∧ d = 57 ∧ ¬ (q = m ∧ rows.length = 3))) → ∀ h' e, Heap.MadeExcOf s'.heap h' e (.ref C) [.str (tx x) t] → E (.ref e) { s' with heap := h' })
    (kQ : d = 57 → q = m → rows.length = 3 → ∀ T s' l' P tp' tn, Fm w g true (fS (st 14)) env s' l' P → s'.heap.IsTuple T #[.str (tx PEER) tp', .int (intOf (rows.getD 2 [])) tn] → Q (.ret (.ref T)) s') :
    wpAny (MM w) A (execs (fB (st 14)) env) Q E s := by
  conv in fB _ => whnf
  have F := F.pin (stb_tup hop) hpt
  have hxl : x.length = 7 + tl.length := by rw [hx]; simp; omega
  refine e_cons (e_if (t_cmp (r_slice (lkp_name F hr ?_ (by kernel_rfl))) (by kernel_rfl)))
  ((with_reducible refine p_none ?_; refine p_some ?_); (with_reducible refine r_int (by assumption) ?_); intro _ _ _)
  refine slice_tx (lo := none) (hi := some (3, _)) (xs' := [50, 50, d]) (by assumption) (by simp [sizeLine]; omega) (by rw [hx]; exact st_to _ 3 (by simp)) ?_; intro _ _ F
  ((with_reducible refine r_str (xs := ?x118) ?h118 (by assumption) ?_); (case h118 => exact sx10); intro _ _ _; (with_reducible refine ne_tx ?_; refine wpAny_truthy_bool ?_))
  rcases hd with rfl | rfl
  · refine if_t (by decide) (e_cons ?_)
    refine cur (by assumption) ?_; intro F
    exact raise_at F hh (own_reply F.Wd) hr (by kernel_rfl) (by kernel_rfl) (by kernel_rfl) (by kernel_rfl) fun h' e hm => kE 160 _ _ _ F (.inl ⟨rfl, rfl⟩) h' e hm
  refine if_f (by decide) ?_
  ((with_reducible refine e_nil ?_; refine e_cons ?_; refine e_assign ?_ (by kernel_rfl)); (with_reducible refine r_meth (pl := ?p119) ?_ ?e119); (case e119 => exact rfl); (with_reducible refine lkp_name (v := ?v120) (by assumption) ?h120 ?_ (by kernel_rfl)); (case h120 => repeat (first | with_reducible exact lkp_here _ _ _ | with_reducible assumption | refine lkp_there (by kernel_rfl) ?_)); (with_reducible refine GM.find ?_; refine cw_builtin ?_ (by kernel_rfl) (by kernel_rfl); refine i_cons ?_ (by kernel_rfl)); (with_reducible refine r_str (xs := ?x121) ?h121 (by assumption) ?_); (case h121 => exact sx7); intro _ _ _; (with_reducible refine i_nil ?_))
  refine c_find (mid := [50, 50, 57, 32]) (post := m :: tl ++ [41]) (by assumption) hx (by decide) ?_; intro _ _ F
  ((with_reducible refine storeV (by assumption) ?_ (by kernel_rfl)); intro _ _; (with_reducible refine e_cons ?_; refine e_if ?_; refine t_cmp ?_ (by kernel_rfl)); (with_reducible refine lkp_name (v := ?v122) (by assumption) ?h122 ?_ (by kernel_rfl)); (case h122 => repeat (first | with_reducible exact lkp_here _ _ _ | with_reducible assumption | refine lkp_there (by kernel_rfl) ?_)); (with_reducible refine r_int (by assumption) ?_); intro _ _ _; (with_reducible refine lt_int ?_; refine wpAny_truthy_bool ?_))
  refine if_f (by decide) ?_
  ((with_reducible refine e_nil ?_; refine e_cons ?_; refine e_assign ?_ (by kernel_rfl)); (with_reducible refine r_meth (pl := ?p123) ?_ ?e123); (case e123 => exact rfl); (with_reducible refine lkp_name (v := ?v124) (by assumption) ?h124 ?_ (by kernel_rfl)); (case h124 => repeat (first | with_reducible exact lkp_here _ _ _ | with_reducible assumption | refine lkp_there (by kernel_rfl) ?_)); (with_reducible refine GM.find ?_; refine cw_builtin ?_ (by kernel_rfl) (by kernel_rfl); refine i_cons ?_ (by kernel_rfl)); (with_reducible refine r_str (xs := ?x125) ?h125 (by assumption) ?_); (case h125 => exact sx8); intro _ _ _; (with_reducible refine i_cons ?_ (by kernel_rfl); refine v_bin ?_); (with_reducible refine lkp_name (v := ?v126) (by assumption) ?h126 ?_ (by kernel_rfl)); (case h126 => repeat (first | with_reducible exact lkp_here _ _ _ | with_reducible assumption | refine lkp_there (by kernel_rfl) ?_)); (with_reducible refine r_int (by assumption) ?_); intro _ _ _; (with_reducible refine o_add (by assumption) ?_); intro _ _ _; (with_reducible refine i_nil ?_))
  refine c_find3 (pre := [50, 50, 57, 32, 40]) (mid := m :: tl) (post := []) (by assumption) hx rfl h41 ?_; intro _ _ F
  ((with_reducible refine storeV (by assumption) ?_ (by kernel_rfl)); intro _ _; (with_reducible refine e_cons ?_; refine e_if ?_; refine t_cmp ?_ (by kernel_rfl)); (with_reducible refine lkp_name (v := ?v127) (by assumption) ?h127 ?_ (by kernel_rfl)); (case h127 => repeat (first | with_reducible exact lkp_here _ _ _ | with_reducible assumption | refine lkp_there (by kernel_rfl) ?_)); (with_reducible refine r_int (by assumption) ?_); intro _ _ _; (with_reducible refine lt_int ?_; refine wpAny_truthy_bool ?_))
  refine if_f (decide_eq_false (by simp; omega)) ?_
  have hqx : x[5 + tl.length]? = some q := by
    rw [hx, show 50 :: 50 :: 57 :: 32 :: 40 :: (m :: tl ++ [41]) = [50, 50, 57, 32, 40] ++ ((m :: tl) ++ [41]) from rfl, List.getElem?_append_right (by simp), List.getElem?_append_left (by simp), ← hq]; simp
  ((with_reducible refine e_nil ?_; refine e_cons ?_; refine e_if ?_; refine t_cmp ?_ (by kernel_rfl); refine r_sub ?_); (with_reducible refine lkp_name (v := ?v128) (by assumption) ?h128 ?_ (by kernel_rfl)); (case h128 => repeat (first | with_reducible exact lkp_here _ _ _ | with_reducible assumption | refine lkp_there (by kernel_rfl) ?_)); (with_reducible refine v_bin ?_); (with_reducible refine lkp_name (v := ?v129) (by assumption) ?h129 ?_ (by kernel_rfl)); (case h129 => repeat (first | with_reducible exact lkp_here _ _ _ | with_reducible assumption | refine lkp_there (by kernel_rfl) ?_)); (with_reducible refine r_int (by assumption) ?_); intro _ _ _; (with_reducible refine o_add (by assumption) ?_); intro _ _ _)
  refine sub_str (item_tx (k := 5) (c := m) (by assumption) rfl (by decide) (by rw [hx]; rfl) ?_); intro _ _ _
  ((with_reducible refine r_sub ?_); (with_reducible refine lkp_name (v := ?v130) (by assumption) ?h130 ?_ (by kernel_rfl)); (case h130 => repeat (first | with_reducible exact lkp_here _ _ _ | with_reducible assumption | refine lkp_there (by kernel_rfl) ?_)); (with_reducible refine v_bin ?_); (with_reducible refine lkp_name (v := ?v131) (by assumption) ?h131 ?_ (by kernel_rfl)); (case h131 => repeat (first | with_reducible exact lkp_here _ _ _ | with_reducible assumption | refine lkp_there (by kernel_rfl) ?_)); (with_reducible refine r_int (by assumption) ?_); intro _ _ _; (with_reducible refine o_sub (by assumption) ?_); intro _ _ _)
  refine sub_str (item_tx (k := 5 + tl.length) (c := q) (by assumption) (by simp; omega) (by omega) hqx ?_); intro _ _ _
  ((with_reducible refine ne_tx ?_; refine wpAny_truthy_bool ?_))
  by_cases hqm : q = m
  case neg =>
    refine if_t (by simpa using fun e => hqm e.symm) ?_
    (refine e_cons ?_; refine cur (by assumption) ?_; intro F; refine raise_at F (by assumption) (own_proto F.Wd) (v := ?v9001) ?h9001 (by kernel_rfl) (by kernel_rfl) (by kernel_rfl) (by kernel_rfl) ?k9001; (case h9001 => repeat (first | with_reducible exact lkp_here _ _ _ | with_reducible assumption | refine lkp_there (by kernel_rfl) ?_)))
    exact fun h' e hm => kE 172 _ _ _ (by assumption) (.inr ⟨rfl, rfl, fun z => hqm z.1⟩) h' e hm
  refine if_f (by simpa using hqm.symm) ?_
  obtain ⟨e1, e2, e3, e4⟩ := hsp hqm
  have hjo : joinM m ([] :: (rows ++ [[]])) = m :: tl := by
    rw [e1, ← joinM_rows]
    cases rows <;> rfl
  ((with_reducible refine e_nil ?_; refine e_cons ?_; refine e_assign ?_ (by kernel_rfl)); (with_reducible refine r_meth (pl := ?p132) ?_ ?e132); (case e132 => exact rfl); (with_reducible refine r_slice ?_); (with_reducible refine lkp_name (v := ?v133) (by assumption) ?h133 ?_ (by kernel_rfl)); (case h133 => repeat (first | with_reducible exact lkp_here _ _ _ | with_reducible assumption | refine lkp_there (by kernel_rfl) ?_)); (with_reducible refine p_some ?_; refine v_bin ?_); (with_reducible refine lkp_name (v := ?v134) (by assumption) ?h134 ?_ (by kernel_rfl)); (case h134 => repeat (first | with_reducible exact lkp_here _ _ _ | with_reducible assumption | refine lkp_there (by kernel_rfl) ?_)); (with_reducible refine r_int (by assumption) ?_); intro _ _ _; (with_reducible refine o_add (by assumption) ?_); intro _ _ _; (with_reducible refine p_some ?_); (with_reducible refine lkp_name (v := ?v135) (by assumption) ?h135 ?_ (by kernel_rfl)); (case h135 => repeat (first | with_reducible exact lkp_here _ _ _ | with_reducible assumption | refine lkp_there (by kernel_rfl) ?_)))
  refine slice_tx (lo := some (5, _)) (hi := some (_, _)) (xs' := m :: tl) (by assumption) (by simp [sizeLine]; omega) (by
    exact (st_mid x 5 (5 + (m :: tl).length) (by omega) (by rw [hx]; simp; omega)).trans (congrArg tx (by rw [hx]; simp))) ?_; intro _ _ F
  ((with_reducible refine GM.split ?_; refine cw_builtin ?_ (by kernel_rfl) (by kernel_rfl); refine i_cons ?_ (by kernel_rfl); refine r_sub ?_); (with_reducible refine lkp_name (v := ?v136) (by assumption) ?h136 ?_ (by kernel_rfl)); (case h136 => repeat (first | with_reducible exact lkp_here _ _ _ | with_reducible assumption | refine lkp_there (by kernel_rfl) ?_)); (with_reducible refine v_bin ?_); (with_reducible refine lkp_name (v := ?v137) (by assumption) ?h137 ?_ (by kernel_rfl)); (case h137 => repeat (first | with_reducible exact lkp_here _ _ _ | with_reducible assumption | refine lkp_there (by kernel_rfl) ?_)); (with_reducible refine r_int (by assumption) ?_); intro _ _ _; (with_reducible refine o_add (by assumption) ?_); intro _ _ _)
  refine sub_str (item_tx (k := 5) (c := m) (by assumption) rfl (by decide) (by rw [hx]; rfl) ?_); intro _ _ _
  ((with_reducible refine i_nil ?_))
  rw [← hjo]
  refine splitM_tx (by assumption) (by simp) (fun r hr => ?_) hk (by simp; omega) (by rw [hjo]; simp; omega) ?_
  · rcases List.mem_cons.mp hr with rfl | hr
    · exact fun h => nomatch h
    · rcases List.mem_append.mp hr with hr | hr
      · exact e2 r hr
      · rw [List.mem_singleton.mp hr]; exact fun h => nomatch h
  intro D s₂ F
  ((with_reducible refine storeV (by assumption) ?_ (by kernel_rfl)); intro _ _; (with_reducible refine e_cons ?_; refine e_if ?_; refine t_cmp ?_ (by kernel_rfl); refine r_call ?_); (with_reducible refine name_boot (v := ?v138) (by assumption) ?h138 ?_ (by kernel_rfl) (by kernel_rfl)); (case h138 => exact bt_len); (with_reducible refine cw_builtin ?_ (by kernel_rfl) (by kernel_rfl); refine i_cons ?_ (by kernel_rfl)); (with_reducible refine lkp_name (v := ?v139) (by assumption) ?h139 ?_ (by kernel_rfl)); (case h139 => repeat (first | with_reducible exact lkp_here _ _ _ | with_reducible assumption | refine lkp_there (by kernel_rfl) ?_)); (with_reducible refine i_nil ?_))
  refine cur (by assumption) ?_; intro F
  refine len_strs (xs := [] :: (rows ++ [[]])) F F.pins.1 (by simp; omega) ?_; intro _ _ F
  ((with_reducible refine r_int (by assumption) ?_); intro _ _ _; (with_reducible refine ne_int ?_; refine wpAny_truthy_bool ?_))
  by_cases h3 : rows.length = 3
  case neg =>
    refine if_t (by simp; omega) ?_
    (refine e_cons ?_; refine cur (by assumption) ?_; intro F; refine raise_at F (by assumption) (own_proto F.Wd) (v := ?v9002) ?h9002 (by kernel_rfl) (by kernel_rfl) (by kernel_rfl) (by kernel_rfl) ?k9002; (case h9002 => repeat (first | with_reducible exact lkp_here _ _ _ | with_reducible assumption | refine lkp_there (by kernel_rfl) ?_)))
    exact fun h' e hm => kE 172 _ _ _ (by assumption) (.inr ⟨rfl, rfl, fun z => h3 z.2⟩) h' e hm
  refine if_f (by simp [h3]) ?_
  ((with_reducible refine e_nil ?_; refine e_cons ?_; refine e_assign ?_ (by kernel_rfl); refine r_sub ?_); (with_reducible refine lkp_name (v := ?v140) (by assumption) ?h140 ?_ (by kernel_rfl)); (case h140 => repeat (first | with_reducible exact lkp_here _ _ _ | with_reducible assumption | refine lkp_there (by kernel_rfl) ?_)); (with_reducible refine r_int (by assumption) ?_); intro _ _ _)
  refine cur (by assumption) ?_; intro F
  refine sub_tup (k := 0) F.pins.2.1 rfl (Nat.succ_pos 1) (by decide) rfl ?_
  ((with_reducible refine storeV (by assumption) ?_ (by kernel_rfl)); intro _ _; (with_reducible refine e_cons ?_; refine e_assign ?_ (by kernel_rfl); refine r_call ?_); (with_reducible refine name_boot (v := ?v141) (by assumption) ?h141 ?_ (by kernel_rfl) (by kernel_rfl)); (case h141 => exact bt_int); (with_reducible refine cw_type ?_ (by kernel_rfl) (by kernel_rfl); refine i_cons ?_ (by kernel_rfl); refine r_sub ?_); (with_reducible refine lkp_name (v := ?v142) (by assumption) ?h142 ?_ (by kernel_rfl)); (case h142 => repeat (first | with_reducible exact lkp_here _ _ _ | with_reducible assumption | refine lkp_there (by kernel_rfl) ?_)); (with_reducible refine r_int (by assumption) ?_); intro _ _ _)
  refine cur (by assumption) ?_; intro F
  have h2 : rows[2]? = some (rows.getD 2 []) := by rw [List.getD_eq_getElem?_getD, List.getElem?_eq_getElem (by omega)]; rfl
  refine sub_strs (k := 3) (m := rows.getD 2 []) F.pins.1 rfl (by decide) (by rw [← h2]; show (rows ++ [[]])[2]? = rows[2]?; exact List.getElem?_append_left (by omega)) ?_; intro _
  ((with_reducible refine i_nil ?_))
  obtain ⟨n1, n3, n2⟩ := e4 _ (List.mem_of_getElem? h2)
  refine c_int (by assumption) n2 n1 n3 ?_; intro _ _ _
  ((with_reducible refine storeV (by assumption) ?_ (by kernel_rfl)); intro _ _; (with_reducible refine e_cons ?_; refine e_ret ?_))
  refine r_tuple ?_
  ((with_reducible refine i_cons ?_ (by kernel_rfl)); (with_reducible refine lkp_name (v := ?v143) (by assumption) ?h143 ?_ (by kernel_rfl)); (case h143 => repeat (first | with_reducible exact lkp_here _ _ _ | with_reducible assumption | refine lkp_there (by kernel_rfl) ?_)); (with_reducible refine i_cons ?_ (by kernel_rfl)); (with_reducible refine lkp_name (v := ?v144) (by assumption) ?h144 ?_ (by kernel_rfl)); (case h144 => repeat (first | with_reducible exact lkp_here _ _ _ | with_reducible assumption | refine lkp_there (by kernel_rfl) ?_)); (with_reducible refine i_nil ?_))
  refine ⟨by simp [sizeLine], _, _, _, _, _, by assumption, fun T s₃ hT hoT F G => ?_⟩
  exact kQ rfl hqm h3 T s₃ _ _ _ _ F F.pins.1
/-! ## parse229 called; _law_port -/
theorem tab_hide : ∀ (Ls : List Addr) {h : Heap}, Tab h → (∀ L ∈ Ls, 107 < L) → Tab (hideAll h Ls)
  | [], _, x, _ => x
  | L :: Ls, h, x, H => tab_hide Ls (x.but (a := L) (fun b o n e => (Heap.hide_ne h n).trans e) (Nat.ne_of_lt (Nat.lt_trans (by decide) (H L (.head _)))) (Nat.ne_of_lt (H L (.head _)))) fun L' h' => H L' (.tail _ h')
theorem fly_gw {s0 sr s' : Shared} {Ls : List Addr} {fr : List Env} {e : Addr} {C : Value} (G : Gw s0 sr) (Y : Fly sr Ls fr e C s') (hL : ∀ L ∈ Ls, s0.heap.objs.size ≤ L) (hs : s0.heap.objs.size ≤ s'.heap.objs.size) : Gw s0 s' where
  keep := fun b o e t => Y.stays b o (hideAll_get Ls (G.keep b o e t) fun h => absurd (Heap.lt_size e) (Nat.not_lt.mpr (hL b h)))
  size := hs
  os := Y.os.trans G.os
  gens := fun h => by rw [Y.gens]; exact G.gens h
  tab := fun x => (tab_hide Ls (G.tab x) fun L h => Nat.lt_of_lt_of_le x.lt (hL L h)).keeps Y.stays
theorem Fm.fly {w : World} {g : Shared} {o : Bool} {sc : Scope} {env : Env} {s sr s' : Shared} {l : List (Str × Value)} {P : Heap → Prop} {Ls : List Addr} {fr : List Env} {e : Addr} {C : Value}
    (F : Fm w g o sc env s l P) (G : Gw s sr) (Y : Fly sr Ls fr e C s') (hL : ∀ L ∈ Ls, L = env.locals ∨ s.heap.objs.size ≤ L) : Fm w g o sc env s' l P := by
  obtain ⟨m, cm, h1, h2, h3⟩ := F.fr
  have n1 : s'.heap.Ns env.locals m := Y.slots.ns (Ns.gw G h1)
  have kp : ∀ b ob, b ≠ env.locals → s.heap.get? b = some ob → (Tb ob → b ≠ 103) → s'.heap.get? b = some ob := fun b ob n e t =>
    Y.stays b ob (hideAll_get Ls (G.keep b ob e t) fun h => (hL b h).elim n fun q => absurd (Heap.lt_size e) (Nat.not_lt.mpr q))
  have c1 : ∀ y c, env.cells.lookup y = some c → s'.heap.IsCell c (cm y) := fun y c e => let ⟨ob, e', d⟩ := h2 y c e
    ⟨ob, kp c ob (Ne.symm (F.ne y c (mem_of_lookup e))) e' (fun t => by obtain ⟨_, vs, e⟩ := t; rw [d] at e; cases e), d⟩
  have gs : g.heap.objs.size ≤ s'.heap.objs.size := Nat.le_trans F.fresh (Nat.le_of_lt (Heap.Ns.lt n1))
  exact ⟨F.hsc, F.gb, F.ce, F.nd, F.wd, fly_gw (F.gw.trans G) Y (fun L h => (hL L h).elim (fun q => q ▸ F.fresh) fun q => Nat.le_trans F.gw.size q) gs, F.fresh, ⟨m, cm, n1, c1, h3⟩, F.apart, F.ne,
    fun y c hy => (c1 y c (lookup_of_mem F.nd hy)).lt, F.own, F.stb, F.stb _ _ (fun b ob off e t => kp b ob off.1 e t) F.pins⟩

theorem fn_parse (P : Params) : fnOk P 181 (fdT (st 14) "parse229" "parse229" [] .none (.str "cpy313.ftplib" 456) (.ref 180) .none) := ⟨by decide, by kernel_rfl⟩
/-- what a reply is: its text, and what is to come of it -/
structure Reply (x tl : List Nat) (rows : List (List Nat)) (d m q : Nat) : Prop where
  hx : x = 50 :: 50 :: d :: 32 :: 40 :: (m :: tl ++ [41])
  hd : d = 56 ∨ d = 57
  h41 : 41 ∉ m :: tl
  len : x.length ≤ 1000
  hq : (m :: tl)[tl.length]? = some q
  hk : Builtin.Str.strKind (tx [m]) = 1
  sp : q = m → tl = (rows.map (· ++ [m])).flatten ∧ (∀ r ∈ rows, m ∉ r) ∧ rows.length ≤ 100 ∧ ∀ r ∈ rows, r ≠ [] ∧ r.length ≤ 600 ∧ ∀ c ∈ r, 48 ≤ c ∧ c ≤ 57
theorem parse_call {w : World} {A : Around} {E : Value → Shared → Prop} {s : Shared} {Q : Value → Shared → Prop} {x tl : List Nat} {rows : List (List Nat)} {d m q : Nat} {t tp tq : Tok} {p : Addr} {fr : List Env} {Ls : List Addr}
    (W : Wd w s.heap) (R : Rm A 2) (Y : Reply x tl rows d m q) (hpt : s.heap.IsTuple p #[.str (tx PEER) tp, .int 21 tq]) (hfr : A.frames = some fr) (H : ∀ env ∈ fr, Frm s.heap env ∧ env.locals ∈ Ls)
    (kE : ∀ C e L sr s', ((C = 160 ∧ d = 56) ∨ (C = 172 ∧ d = 57 ∧ ¬ (q = m ∧ rows.length = 3))) → Gw s sr → s.heap.objs.size ≤ L → Fly sr (L :: Ls) fr e (.ref C) s' → E (.ref e) s')
    (kQ : d = 57 → q = m → rows.length = 3 → ∀ T s' tp' tn, Gw s s' → s'.heap.IsTuple T #[.str (tx PEER) tp', .int (intOf (rows.getD 2 [])) tn] → Q (.ref T) s') :
    wpAny (MM w) A (call (.ref 181) [.str (tx x) t, .ref p]) Q E s := by
  refine wpAny_call (codeG (body := fB (st 14)) (binds := [("resp", .str (tx x) t), ("peer", .ref p)]) ["resp", "peer"] W R.lim (fn_parse _) (by kernel_rfl) (by kernel_rfl) (.of_eq (by kernel_rfl)) (by kernel_rfl) (by kernel_rfl) rfl (by decide +kernel) (by decide +kernel) (by kernel_rfl) ⟨rfl, rfl⟩ ?_)
  intro s₁ env henv F
  have hT : ∃ ob, s.heap.get? p = some ob ∧ ob.cls = .type "tuple" := let ⟨o, e, c, _⟩ := hpt; ⟨o, e, c⟩
  obtain ⟨ob, e1, e2⟩ := hT
  have hpt1 : s₁.heap.IsTuple p #[.str (tx PEER) tp, .int 21 tq] := let ⟨o, e, c, r⟩ := hpt; ⟨o, F.gw.keep _ _ e fun t => absurd t (notTb_of_cls (by rw [c]; exact fun e => nomatch e)), c, r⟩
  refine parse_body F R.handled (by rfl) (by rfl) hpt1 (F.oldOff e1) Y.hx Y.hd Y.h41 Y.len Y.hq Y.hk Y.sp (fun C s' l' P F' hc h' e hm => ?_) fun a b c T s' l' P tp' tn F' hT => kQ a b c T s' tp' tn F'.gw hT
  obtain ⟨mm, _, n1, _⟩ := F'.fr
  refine leave_first (Ls := env.locals :: Ls) (Around.frames_deeper hfr) (fun env' he => ?_) hm fun h'' Z => kE C e env.locals s' _ hc F'.gw F.fresh Z
  rcases List.mem_cons.mp he with rfl | he
  · exact ⟨⟨by rw [F.hsc]; decide, by rw [henv]; rfl, mm, n1⟩, .head _⟩
  · exact ⟨(H env' he).1.gw F'.gw, .tail _ (H env' he).2⟩
/-! ## _law_port -/
noncomputable def PROTO : List Nat := [112, 114, 111, 116, 111]
noncomputable def REPLY : List Nat := [114, 101, 112, 108, 121]
section
variable {w : World} {A : Around} {E : Value → Shared → Prop} {s sr : Shared} {env : Env} {Q : Flow → Shared → Prop} {e C : Addr} {Ls : List Addr} {fr : List Env} {x : Str} {np pos : Pos} {rest : List ExceptHandler} {b₀ : Stmt} {body : List Stmt}
theorem name_gW {A : Around} {E : Value → Shared → Prop} {Q : Value → Shared → Prop} {v : Value} (W : Wd w s.heap) (hv : glob w.params x = some v) (hg : env.globals = mainGlobals) (hsc : (env.scope.kind == .function && env.scope.names.lookup x == some .globalImplicit && !(x == ("__debug__" : Str))) = true) (h : Q v s) :
    wpAny (MM w) A (eval (.Name x np) env) Q E s := by
  simp only [Bool.and_eq_true, beq_iff_eq, Bool.not_eq_true'] at hsc
  exact Calls.Name_function_global hsc.1.1 hsc.1.2 (Calls.loadGlobal_global (by rw [hg]; exact W.g) hv h) hsc.2
theorem catch_hit (W : Wd w s.heap) (O : OwnCls x C exB "Exception.__new__" (glob w.params) s.heap) (Y : Fly sr Ls (env :: fr) e (.ref C) s) (hg : env.globals = mainGlobals)
    (hsc : (env.scope.kind == .function && env.scope.names.lookup x == some .globalImplicit && !(x == ("__debug__" : Str))) = true)
    (h : ∀ s' E', Fly sr Ls (env :: fr) e (.ref C) s' → wpAny (MM w) (A.mark (some (.ref e))) (execs (b₀ :: body) env) Q E' s') :
    wpAny (MM w) A (handleBy (.ref e) env (.ExceptHandler (some (.Name x np)) none (b₀ :: body) pos :: rest)) Q E s := by
  refine wpAny_handleBy_cons (codeAny_handlers_test (name_gW W O.bound hg hsc ?_)) (by intro q; cases q)
  refine match_self O Y.there ?_
  exact codeAny_handlers_suite (caught_again Y fun s' Y' => h s' _ Y')
theorem catch_miss (W : Wd w s.heap) (he : ∃ oe, s.heap.get? e = some oe ∧ oe.cls = .ref 160) (hg : env.globals = mainGlobals) (hx : x = "error_proto")
    (hsc : (env.scope.kind == .function && env.scope.names.lookup x == some .globalImplicit && !(x == ("__debug__" : Str))) = true)
    (h : wpAny (MM w) A (handleBy (.ref e) env rest) Q E s) :
    wpAny (MM w) A (handleBy (.ref e) env (.ExceptHandler (some (.Name x np)) none body pos :: rest)) Q E s := by
  subst hx
  refine wpAny_handleBy_cons (codeAny_handlers_test (name_gW W (gl_error_proto _) hg hsc ?_)) (by intro q; cases q)
  exact match_other W he h
end
theorem Fm.offTup {w : World} {g : Shared} {o : Bool} {sc : Scope} {env : Env} {s : Shared} {l : List (Str × Value)} {P : Heap → Prop} {T : Addr} {vs : Array Value} (F : Fm w g o sc env s l P) (h : s.heap.IsTuple T vs) : offE env T := by
  obtain ⟨ob, e, _, n, d⟩ := h
  obtain ⟨m, cm, ⟨o1, es, ep, e1, d1, _⟩, h2, _⟩ := F.fr
  refine ⟨fun q => ?_, fun y c hy q => ?_⟩
  · rw [q, e1] at e; cases e; rw [d1] at d; cases d
  · obtain ⟨o2, e2, d2⟩ := h2 y c (lookup_of_mem F.nd hy)
    rw [q, e2] at e; cases e; rw [d2] at d; cases d
theorem fn_port (P : Params) : fnOk P 227 (fdL 23 "_law_port" 226) := ⟨by decide, by kernel_rfl⟩
theorem port_spec {w : World} {A : Around} {E : Value → Shared → Prop} {s : Shared} {Q : Value → Shared → Prop} {x tl : List Nat} {rows : List (List Nat)} {d m q : Nat} {t : Tok} {g : Shared} {o : Bool} {sc : Scope} {env3 : Env} {l : List (Str × Value)} {P : Heap → Prop}
    (F : Fm w g o sc env3 s l P) (R : Rm A 4) (Y : Reply x tl rows d m q) (hfr : A.frames = some [env3]) (hf : env3.frame = some env3.locals) (hkm : env3.scope.kind ≠ .module)
    (kR : d = 56 → ∀ s' t', Fm w g o sc env3 s' l P → Q (.str (tx REPLY) t') s')
    (kP : d = 57 → ¬ (q = m ∧ rows.length = 3) → ∀ s' t', Fm w g o sc env3 s' l P → Q (.str (tx PROTO) t') s')
    (kQ : d = 57 → q = m → rows.length = 3 → ∀ T s' tp' tn, Fm w g o sc env3 s' l (fun h => h.IsTuple T #[.str (tx PEER) tp', .int (intOf (rows.getD 2 [])) tn] ∧ P h) → Q (.ref T) s') :
    wpAny (MM w) A (call (.ref 227) [.str (tx x) t]) Q E s := by
  refine callF (body := fB (st 23)) (binds := [("reply", .str (tx x) t)]) ["reply"] F.Wd R.lim (fn_port _) (by kernel_rfl) (by kernel_rfl) (by kernel_rfl) (by kernel_rfl) (by kernel_rfl) rfl (by decide +kernel) (by decide +kernel) (by kernel_rfl) ⟨rfl, rfl⟩ ?_
  intro s₁ env henv F2
  have hgl := F2.gb.1
  have hsc2 := F2.hsc
  have hfr2 : env.frame = some env.locals := by rw [henv]; rfl
  conv in fB _ => whnf
  refine e_cons (wpAny_Try_except ?_)
  ((with_reducible refine e_cons ?_; refine e_ret ?_; refine r_call ?_); (with_reducible refine name_glob (v := ?v145) (by assumption) ?h145 ?_ (by kernel_rfl)); (case h145 => exact gl_parse229 _))
  refine cw_fn (fn_parse _) ?_ (by kernel_rfl) (by kernel_rfl)
  ((with_reducible refine i_cons ?_ (by kernel_rfl)); (with_reducible refine lkp_name (v := ?v146) (by assumption) ?h146 ?_ (by kernel_rfl)); (case h146 => repeat (first | with_reducible exact lkp_here _ _ _ | with_reducible assumption | refine lkp_there (by kernel_rfl) ?_)); (with_reducible refine i_cons ?_ (by kernel_rfl)))
  refine r_tuple ?_
  ((with_reducible refine i_cons ?_ (by kernel_rfl)); (with_reducible refine r_str (xs := ?x147) ?h147 (by assumption) ?_); (case h147 => exact sx16); intro _ _ _; (with_reducible refine i_cons ?_ (by kernel_rfl)); (with_reducible refine r_int (by assumption) ?_); intro _ _ _; (with_reducible refine i_nil ?_))
  refine ⟨by simp [sizeLine], _, _, _, _, _, by assumption, fun T s₂ hT hoT F2 G => ?_⟩
  ((with_reducible refine i_nil ?_))
  refine ⟨F2.Wd, ?_⟩
  obtain ⟨mm, _, n1, _⟩ := F.fr
  obtain ⟨m2, _, n2, _⟩ := F2.fr
  have hfrm : Frm s.heap env3 := ⟨hkm, hf, mm, n1⟩
  refine parse_call (fr := [env, env3]) (Ls := [env.locals, env3.locals]) F2.Wd ((R.deeper env).less (by decide)) Y F2.pins.1 (Around.frames_deeper hfr) (fun env' he => ?_) ?_ ?_
  · rcases List.mem_cons.mp he with rfl | he
    · exact ⟨⟨by rw [hsc2]; decide, hfr2, m2, n2⟩, .head _⟩
    · rw [List.mem_singleton.mp he]; exact ⟨hfrm.gw F2.gw, .tail _ (.head _)⟩
  · intro C e L sr s' hc G' hL Z
    have hLs : ∀ L' ∈ [L, env.locals, env3.locals], L' = env3.locals ∨ s.heap.objs.size ≤ L' := fun L' h' => by
      rcases List.mem_cons.mp h' with rfl | h'
      · exact .inr (Nat.le_trans F2.gw.size hL)
      · rcases List.mem_cons.mp h' with rfl | h'
        · exact .inr F2.fresh
        · exact .inl (List.mem_singleton.mp h')
    refine caught_on (Around.frames_deeper hfr) hfr2 Z fun s3 Z3 => ?_
    have F3 := F.fly (F2.gw.trans G') Z3 hLs
    rcases hc with ⟨rfl, hd⟩ | ⟨rfl, hd, hn⟩
    · refine catch_miss F3.Wd Z3.there hgl rfl (by rw [hsc2]; kernel_rfl) ?_
      refine catch_hit F3.Wd (own_reply F3.Wd) Z3 hgl (by rw [hsc2]; kernel_rfl) fun s4 E' Z4 => ?_
      have F4 := F.fly (F2.gw.trans G') Z4 hLs
      refine e_cons (e_ret (wpAny_Constant_str ?_))
      exact kR hd _ _ (F4.tok _)
    · refine catch_hit F3.Wd (own_proto F3.Wd) Z3 hgl (by rw [hsc2]; kernel_rfl) fun s4 E' Z4 => ?_
      have F4 := F.fly (F2.gw.trans G') Z4 hLs
      refine e_cons (e_ret (wpAny_Constant_str ?_))
      exact kP hd hn _ _ (F4.tok _)
  · intro hd hq h3 T' s' tp' tn G' hT'
    have F3 := F.gws (F2.gw.trans G')
    exact kQ hd hq h3 T' s' tp' tn (F3.pin (stb_tup (F3.offTup hT')) hT')
/-! ## the law: its plain states -/
theorem srt_of {x : List Nat} (h : WordOk x) : OkRow (d, x) := ⟨h.srt, h.dig⟩
theorem str_dots {r : Rw} (h : 1 ≤ r.1) : [46] ++ str r = str (more r) := by
  unfold str more
  rw [if_neg (by omega)]
  show 46 :: (List.replicate r.1 46 ++ r.2) = List.replicate (r.1 + 1) 46 ++ r.2
  rw [List.replicate_succ]; rfl
theorem mrow_str {r : Rw} (h : OkRow r) : mrow (str r) = str (more r) := by
  obtain ⟨d, x⟩ := r
  unfold mrow
  cases d with
  | zero =>
    rw [if_neg]
    · rfl
    · intro e
      have e' : x.head? = some 46 := e
      have := (h.2 46 (List.mem_of_mem_head? (by rw [e']; exact rfl))).1
      omega
  | succ d => rw [if_pos (by rfl)]; exact str_dots (Nat.succ_pos d)
theorem dts_str {r : Rw} (h : OkRow r) : dts (str r) = r.1 := by
  unfold dts str
  rw [List.count_append, List.count_replicate_self, List.count_eq_zero.mpr fun e => by have := (h.2 46 e).1; omega]; rfl
theorem mem_str {r : Rw} (h : OkRow r) : ∀ c ∈ str r, c = 46 ∨ (49 ≤ c ∧ c ≤ 53) := fun c hc => by
  rcases List.mem_append.mp hc with hc | hc
  · exact .inl (List.eq_of_mem_replicate hc)
  · exact .inr (h.2 c hc)
theorem cl_str {r : Rw} (h : OkRow r) : Cl (str r) := fun c hc => by have := mem_str h c hc; omega
theorem len_str' (r : Rw) : (str r).length = r.1 + r.2.length := by simp [str]

noncomputable def dot (i : Nat) : Nat := if i < 3 then 1 else 0
/-- the rows that are placed -/
structure Grow (ws : List (List Nat)) (i : Nat) (L : List Rw) : Prop where
  len : L.length = i
  wd : L.map (·.2) = ws.take i
  ch : Chain L
  pos : i ≤ 3 → ∀ r ∈ L, 1 ≤ r.1
  small : ∀ r ∈ L, r.1 ≤ 4 * i
  next : i < 4 → ∀ r, L.getLast? = some r → Cov r.2 ((ws.getD i []).drop (r.1 - 1))
/-- the same, while the mail is sent ahead of the next row -/
structure GrowW (ws : List (List Nat)) (i : Nat) (M : List Rw) (k : Nat) : Prop where
  len : M.length = i + 1
  wd : M.map (·.2) = ws.take (i + 1)
  ch : Chain M
  pos : i < 3 → ∀ r ∈ M, 1 ≤ r.1
  small : ∀ r ∈ M, r.1 ≤ 4 * i + 1 + k
  last : M.getLast? = some ((if i < 3 then 1 + k else 0), ws.getD i [])
theorem okrows {ws : List (List Nat)} (hw : ∀ x ∈ ws, WordOk x) {L : List Rw} {i : Nat} (h : L.map (·.2) = ws.take i) : ∀ r ∈ L, OkRow r := fun r hr => by
  have : r.2 ∈ ws.take i := h ▸ List.mem_map_of_mem hr
  have := hw _ (List.mem_of_mem_take this)
  exact ⟨this.srt, this.dig⟩
theorem chain_snoc {q : Rw} : ∀ {L : List Rw}, Chain L → (∀ r, L.getLast? = some r → V r q) → Chain (L ++ [q])
  | [], _, _ => trivial
  | [r], _, h => ⟨h r rfl, trivial⟩
  | _ :: b :: L, h, k => ⟨h.1, chain_snoc (L := b :: L) h.2 fun r hr => k r (by rw [List.getLast?_cons_cons]; exact hr)⟩
theorem take_succ_getD {ws : List (List Nat)} {i : Nat} (hi : i < ws.length) : ws.take (i + 1) = ws.take i ++ [ws.getD i []] := by
  rw [List.take_add_one, List.getD_eq_getElem?_getD, List.getElem?_eq_getElem hi]; rfl
theorem Grow.push {ws : List (List Nat)} {i : Nat} {L : List Rw} (hl : ws.length = 4) (hw : ∀ x ∈ ws, WordOk x) (G : Grow ws i L) (hi : i < 4) : GrowW ws i (L ++ [(dot i, ws.getD i [])]) 0 where
  len := by simp [G.len]
  wd := by rw [List.map_append, G.wd, take_succ_getD (by omega)]; rfl
  ch := chain_snoc G.ch fun r hr => by
    have hm : r ∈ L := List.mem_of_getLast? hr
    have h1 := G.pos (by
      omega) r hm
    have h2 := G.next hi r hr
    unfold dot V
    split
    · exact ⟨h1, h2⟩
    · refine ⟨Nat.zero_le _, ?_⟩
      have := cov_drop (okrows hw G.wd r hm).1 (r.1 - 1) h2
      rwa [show r.1 - 1 + 1 = r.1 - 0 by omega] at this
  pos := fun h r hr => by
    rcases List.mem_append.mp hr with hr | hr
    · exact G.pos (by omega) r hr
    · rw [List.mem_singleton.mp hr]; show 1 ≤ dot i; unfold dot; rw [if_pos h]; exact Nat.le_refl _
  small := fun r hr => by
    rcases List.mem_append.mp hr with hr | hr
    · have := G.small r hr; omega
    · rw [List.mem_singleton.mp hr]; show dot i ≤ _; unfold dot; split <;> omega
  last := by rw [List.getLast?_concat]; rfl
theorem GrowW.more {ws : List (List Nat)} {i k : Nat} {M : List Rw} (hw : ∀ x ∈ ws, WordOk x) (G : GrowW ws i M k) (hi : i < 3) : GrowW ws i (M.map more) (k + 1) where
  len := by rw [List.length_map]; exact G.len
  wd := by rw [List.map_map]; exact G.wd
  ch := more_chain (okrows hw G.wd) G.ch
  pos := fun _ r hr => by
    obtain ⟨q, hq, rfl⟩ := List.mem_map.mp hr
    have := G.pos hi q hq
    show 1 ≤ (if q.1 = 0 then 0 else q.1 + 1)
    rw [if_neg (by omega)]; omega
  small := fun r hr => by
    obtain ⟨q, hq, rfl⟩ := List.mem_map.mp hr
    have := G.small q hq
    show (if q.1 = 0 then 0 else q.1 + 1) ≤ _
    split <;> omega
  last := by
    rw [List.getLast?_map, G.last, if_pos hi, if_pos hi]
    show some ((if 1 + k = 0 then 0 else 1 + k + 1), _) = _
    rw [if_neg (by omega)]; rfl
theorem GrowW.done {ws : List (List Nat)} {i k : Nat} {M : List Rw} (G : GrowW ws i M k) (hk : k ≤ 3) (h : i < 3 → Cov (ws.getD i []) ((ws.getD (i + 1) []).drop k)) : Grow ws (i + 1) M where
  len := G.len
  wd := G.wd
  ch := G.ch
  pos := fun h => G.pos (by omega)
  small := fun r hr => by have := G.small r hr; omega
  next := fun h4 r hr => by
    rw [G.last, if_pos (by omega)] at hr
    cases hr
    show Cov (ws.getD i []) ((ws.getD (i + 1) []).drop (1 + k - 1))
    rw [show 1 + k - 1 = k by omega]
    exact h (by omega)
theorem cov_drop3 {u v : List Nat} (hv : v.length ≤ 3) {k : Nat} (hk : 3 ≤ k) : Cov u (v.drop k) := by
  rw [List.drop_eq_nil_of_le (by omega)]; exact cov_nil _

/-- the table while its dots are filled -/
structure Tabl (W0 : List Nat) (turn : Nat) (L : List Rw) : Prop where
  len : L.length = 4
  ch : Chain L
  ok : ∀ r ∈ L, OkRow r
  ke : KE (read L) W0
  dots : dotsOf L + 5 * (4 - turn) ≤ 100
theorem K.len {u v : List Nat} (h : K u v) : u.length = v.length := by cases h <;> rfl
theorem KE.len {u v : List Nat} (h : KE u v) : u.length = v.length := by
  induction h with
  | refl => rfl
  | symm _ ih => exact ih.symm
  | trans _ _ a b => exact a.trans b
  | «at» p q h => simp [K.len h]
theorem dots_mem {L : List Rw} {r : Rw} (h : r ∈ L) : r.1 ≤ dotsOf L := by
  induction L with
  | nil => cases h
  | cons q L ih =>
    show _ ≤ (q.1 :: L.map (·.1)).sum
    rw [List.sum_cons]
    rcases List.mem_cons.mp h with rfl | h
    · omega
    · have : r.1 ≤ (L.map (·.1)).sum := ih h
      omega
theorem read_mem {L : List Rw} {r : Rw} (h : r ∈ L) : r.2.length ≤ (read L).length := by
  induction L with
  | nil => cases h
  | cons q L ih =>
    unfold read
    rw [List.length_append]
    rcases List.mem_cons.mp h with rfl | h
    · omega
    · have := ih h; omega
theorem Tabl.small {W0 : List Nat} {turn : Nat} {L : List Rw} (T : Tabl W0 turn L) (hW : W0.length ≤ 12) : ∀ r ∈ L.map str, r.length ≤ 112 := fun x hx => by
  obtain ⟨r, hr, rfl⟩ := List.mem_map.mp hx
  rw [len_str']
  have h1 := dots_mem hr
  have h2 := read_mem hr
  have h3 := T.ke.len
  have h4 := T.dots
  omega
theorem dotsOf_append (A B : List Rw) : dotsOf (A ++ B) = dotsOf A + dotsOf B := by simp [dotsOf]
theorem dots_more (L : List Rw) : dotsOf (L.map more) ≤ dotsOf L + L.length := by
  induction L with
  | nil => simp [dotsOf]
  | cons q L ih =>
    have e1 : dotsOf ((q :: L).map more) = (more q).1 + dotsOf (L.map more) := by simp [dotsOf]
    have e2 : dotsOf (q :: L) = q.1 + dotsOf L := by simp [dotsOf]
    have : (more q).1 ≤ q.1 + 1 := by show (if q.1 = 0 then 0 else q.1 + 1) ≤ _; split <;> omega
    rw [e1, e2, List.length_cons]; omega
theorem Tabl.send {W0 : List Nat} {turn : Nat} {L : List Rw} (T : Tabl W0 (turn + 1) L) (h : dotsOf L + 5 * (4 - turn) ≤ 100) (ht : turn < 4) : Tabl W0 (turn + 1) (L.map more) ∧ dotsOf (L.map more) + 5 * (4 - (turn + 1)) + 1 ≤ dotsOf L + 5 * (4 - turn) := by
  have h1 := dots_more L
  rw [T.len] at h1
  refine ⟨⟨by rw [List.length_map]; exact T.len, more_chain T.ok T.ch, more_ok T.ok, by rw [more_read]; exact T.ke, by omega⟩, by omega⟩
theorem getD_str {L : List Rw} {k : Nat} {r : Rw} (h : L[k]? = some r) : (L.map str).getD k [] = str r := by
  rw [List.getD_eq_getElem?_getD, List.getElem?_map, h]; rfl
theorem Tabl.fill {W0 : List Nat} {turn p : Nat} {L : List Rw} (T : Tabl W0 turn L) (hp : p < 4) (hr : readyP (L.map str) p = true) :
    ∃ d x L', (L.map str)[p]? = some (List.replicate (d + 1) 46 ++ x) ∧ (∀ c ∈ x, c ≠ 46) ∧ (L.map str).take p ++ slide ((L.map str).drop (p + 1)) (List.replicate d 46) x = L'.map str ∧ Tabl W0 (turn + 1) L' ∧ dotsOf L' + 1 = dotsOf L := by
  have hpl : p < L.length := by rw [T.len]; exact hp
  obtain ⟨d', x, hx⟩ : ∃ d' x, L[p]? = some (d', x) := ⟨L[p].1, L[p].2, List.getElem?_eq_getElem hpl⟩
  have hmem : (d', x) ∈ L := List.mem_of_getElem? hx
  have hok := T.ok _ hmem
  unfold readyP at hr
  rw [decide_eq_true_eq, getD_str hx, dts_str hok] at hr
  have hr : dts ((L.map str).getD (p + 1) []) < d' := hr
  obtain ⟨d, rfl⟩ : ∃ d, d' = d + 1 := ⟨d' - 1, by omega⟩
  have hsp : L = L.take p ++ (d + 1, x) :: L.drop (p + 1) := by
    conv => lhs; rw [← List.take_append_drop p L]
    have e : L[p] = (d + 1, x) := by rw [List.getElem?_eq_getElem hpl] at hx; exact Option.some.inj hx
    rw [List.drop_eq_getElem_cons hpl, e]
  have hch := T.ch
  have hok' := T.ok
  have hke := T.ke
  rw [hsp] at hch hok' hke
  obtain ⟨N, L', e1, e2, e3, e4, e5⟩ := fill_ok hch hok' (fun q hq => by
    have hq' : L[p + 1]? = some q := by rw [← hq, List.head?_drop]
    rw [getD_str hq', dts_str (T.ok _ (List.mem_of_getElem? hq'))] at hr
    omega)
  have hlen : L'.length = (L.drop (p + 1)).length := by have := congrArg List.length e4; simpa using this
  have hd : dotsOf (L.take p ++ (d, N) :: L') + 1 = dotsOf L := by
    conv => rhs; rw [hsp]
    rw [dotsOf_append, dotsOf_append]
    have a1 : dotsOf ((d, N) :: L') = d + dotsOf L' := by simp [dotsOf]
    have a2 : dotsOf ((d + 1, x) :: L.drop (p + 1)) = d + 1 + dotsOf (L.drop (p + 1)) := by simp [dotsOf]
    have a3 : dotsOf L' = dotsOf (L.drop (p + 1)) := by unfold dotsOf; rw [e4]
    rw [a1, a2, a3]; omega
  refine ⟨d, x, L.take p ++ (d, N) :: L', ?_, fun c hc e => by have := (hok.2 c hc).1; omega, ?_, ⟨?_, e2, e3, e5.trans hke, ?_⟩, hd⟩
  · rw [List.getElem?_map, hx]; rfl
  · rw [← List.map_drop, e1, ← List.map_take, List.map_append, List.map_cons]
  · have := T.len; simp [hlen]; omega
  · have := T.dots; omega
theorem ready_end {W0 : List Nat} {turn : Nat} {L : List Rw} (T : Tabl W0 turn L) (h : readyL (L.map str) = []) : ∀ r ∈ L, r.1 = 0 := by
  unfold readyL at h
  rw [List.map_eq_nil_iff, List.filter_eq_nil_iff, List.length_map, T.len] at h
  have hf : ∀ k, k < 4 → dts ((L.map str).getD k []) ≤ dts ((L.map str).getD (k + 1) []) := fun k hk => by
    have := h k (by simpa using hk)
    unfold readyP at this
    simpa using this
  have h4 : dts ((L.map str).getD 4 []) = 0 := by
    rw [List.getD_eq_getElem?_getD, List.getElem?_eq_none (by rw [List.length_map, T.len]; exact Nat.le_refl _)]; rfl
  intro r hr
  obtain ⟨k, hk⟩ := List.getElem?_of_mem hr
  have hkl : k < 4 := by have := (List.getElem?_eq_some_iff.mp hk).1; rw [T.len] at this; exact this
  have e := getD_str hk
  have : dts ((L.map str).getD k []) = r.1 := by rw [e, dts_str (T.ok r hr)]
  have f0 : dts ((L.map str).getD 0 []) ≤ dts ((L.map str).getD 1 []) := hf 0 (by decide)
  have f1 : dts ((L.map str).getD 1 []) ≤ dts ((L.map str).getD 2 []) := hf 1 (by decide)
  have f2 : dts ((L.map str).getD 2 []) ≤ dts ((L.map str).getD 3 []) := hf 2 (by decide)
  have f3 : dts ((L.map str).getD 3 []) ≤ dts ((L.map str).getD 4 []) := hf 3 (by decide)
  match k, hkl with
  | 0, _ => omega
  | 1, _ => omega
  | 2, _ => omega
  | 3, _ => omega
/-! ## the law: loops, lists that grow -/
section
variable {w : World} {A : Around} {E : Value → Shared → Prop} {s : Shared} {g : Shared} {o : Bool} {sc : Scope} {env : Env} {l : List (Str × Value)} {P : Heap → Prop}
theorem LN.strs {a : Addr} {f : Nat → List Nat} {is : List Nat} {ys : List Value} {h : Heap} (x : LN a ys h) (p : Paired (fun i y => ∃ t, y = .str (tx (f i)) t) is ys) : SN a (is.map f) h := let ⟨ts, e, r⟩ := paired_strs p; ⟨ts, e ▸ x, r⟩

theorem iter1_rg {r : Addr} {n : Nat} (hh : A.handled = none) (hr : Rg r 0 n s.heap) (hn : n < 2 ^ 62) : Iter1 w A (.ref r) s n (fun i v => ∃ t, v = .int (i : Nat) t) := by
  intro Q E h
  obtain ⟨t, u, v, hr⟩ := hr
  refine wpAny_pyIter_range hr (small_one (by omega) (by omega) (by omega) (by omega)) ?_
  have hc : Builtin.Range.rangeSize 0 (n : Int) 1 = n := by rw [rangeSize_one]; split <;> omega
  rw [hc]
  have W := Walks.range (prog := PySem.Challenge.pw_xl0004_01) (w := w) hh s.heap.objs.size 0 1 n
  simp only [Int.mul_one, Int.zero_add] at W
  exact h _ _ _ W rfl (by simpa [IsRangeIter] using Heap.get?_push_size s.heap (o := { cls := .type "range_iterator", data := .fields #[rawInt 0, rawInt n, rawInt 1] }) rfl) (fun i h st => Heap.lt_size st) ((Gw.refl s).push _ s.toks)
/-- for x in range(n) -/
theorem for_rg {x : Str} {px pos : Pos} {iter : Expr} {body : List Stmt} {n : Nat} {Q : Flow → Shared → Prop} (Jx : Addr → Nat → List (Str × Value) → (Heap → Prop) → Prop) (hh : A.handled = none) (hn : n < 2 ^ 62)
    (h : wpAny (MM w) A (eval iter env) (fun xv s₁ => ∃ r l P, xv = .ref r ∧ Rg r 0 n s₁.heap ∧ Fm w g true sc env s₁ l P ∧ ∀ I, s₁.heap.objs.size ≤ I → Jx I 0 l P) E s)
    (stI : ∀ I i l P, Jx I i l P → Stb env P ∧ ∀ h h' : Heap, (∀ b ob, b ≠ I → h.get? b = some ob → h'.get? b = some ob) → P h → P h')
    (hk : (sc.kind == .function && (sc.names.lookup x == some .local || (true && sc.names.lookup x == some .cell))) = true)
    (step : ∀ I S i s l P t E', i < n → Jx I i l P → Stb env S → (∀ h h' : Heap, (∀ ob, h.get? I = some ob → h'.get? I = some ob) → S h → S h') → (∀ h : Heap, S h → I < h.objs.size) → Fm w g true sc env s ((x, .int (i : Nat) t) :: l) (fun h => S h ∧ P h) →
      wpAny (MM w) A (execs body env) (fun f s' => f = .next ∧ ∃ l' P', Jx I (i + 1) l' P' ∧ Fm w g true sc env s' l' (fun h => S h ∧ P' h)) E' s)
    (fin : ∀ I s l P, Jx I n l P → Fm w g true sc env s l P → Q .next s) (hs : ∀ x, foldedSetIterable iter env x = pure x) : wpAny (MM w) A (exec (.For (.Name x px) iter body [] pos) env) Q E s := by
  refine e_for (wpAny_mono h (fun xv s₁ ⟨r, l, P, e, hr, F, hJ⟩ => ?_) fun _ _ e => e) hs
  subst e
  refine iter1_rg hh hr hn _ _ fun I St s₂ Wk hI hst hlt G => ?_
  have offI : offE env I := F.off (Nat.le_of_eq hI.symm)
  have gI : g.heap.objs.size ≤ I := hI ▸ F.gw.size
  have hI3 : I ≠ 103 := fun e => absurd (Nat.lt_of_lt_of_le F.wd.tab.lt gI) (by rw [e]; decide)
  have stK : ∀ i (h h' : Heap), (∀ ob, h.get? I = some ob → h'.get? I = some ob) → St i h → St i h' := fun i h h' k x => Wk.frame i h h' x fun b hb o e => by simp at hb; subst hb; exact k o e
  have stS : ∀ i, Stb env (St i) := fun i h h' k x => stK i h h' (fun ob e => k I ob offI e fun _ => hI3) x
  have J0 := hJ I (Nat.le_of_eq hI.symm)
  have F0 := (F.gws G).weak (R := fun h => St 0 h ∧ P h) (F.stb.and (stS 0)) fun x => ⟨hst, x⟩
  refine ⟨I, [I], [I], n, _, _, St, fun i s => ∃ l P, Jx I i l P ∧ Fm w g true sc env s l (fun h => St i h ∧ P h), rfl, turns_of Wk, hst, ⟨l, P, J0, F0⟩, ?_, ?_⟩
  · rintro i s₅ v h₅ tk E' hi ⟨l, P, hJ, F⟩ hst₅ ⟨t, rfl⟩ hst' hk₅
    have k5 : ∀ c ob, c ≠ I → s₅.heap.get? c = some ob → h₅.get? c = some ob := fun c ob hc e => hk₅ c ob (by simpa using hc) e
    obtain ⟨stP, stJ⟩ := stI I i l P hJ
    have F₆ := F.wr1 (P' := fun h => St (i + 1) h ∧ P h) gI offI k5 tk (stP.and (stS (i + 1))) ⟨hst', stJ _ _ k5 F.pins.2⟩
    refine wpAny_assign_Name (storeV F₆ (fun s₇ F₇ => ?_) hk)
    refine wpAny_mono (step I (St (i + 1)) i s₇ l P t E' hi hJ (stS (i + 1)) (stK (i + 1)) (hlt (i + 1)) F₇) (fun f s' ⟨e, l', P', hJ', F'⟩ => ⟨e, ⟨l', P', hJ', F'⟩, F'.pins.1⟩) fun _ _ e => e
  · rintro s₅ h₅ tk ⟨l, P, hJ, F⟩ hst₅ hk₅
    have k5 : ∀ c ob, c ≠ I → s₅.heap.get? c = some ob → h₅.get? c = some ob := fun c ob hc e => hk₅ c ob (by simpa using hc) e
    obtain ⟨stP, stJ⟩ := stI I n l P hJ
    exact fin I _ l P hJ (F.wr1 (P' := P) gI offI k5 tk stP (stJ _ _ k5 F.pins.2))
theorem append_ln {Q : Value → Shared → Prop} {a : Addr} {vs : List Value} {v : Value} {P' : Heap → Prop} (F : Fm w g true sc env s l P) (hg : g.heap.objs.size ≤ a) (off : offE env a) (ha : LN a vs s.heap) (hsz : vs.length ≤ 1000) (hst : Stb env P')
    (hP : ∀ h', Heap.SameBut a s.heap h' → LN a (vs ++ [v]) h' → P' h') (h : ∀ s', Fm w g true sc env s' l P' → Q .none s') : wpAny (MM w) A (call (.builtin "list.append") [.ref a, v]) Q E s :=
  wpAny_list_append_plain ha (hsz := by simp [sizeLine]; omega) fun h' hl hs => h _ (F.stepB (s' := { s with heap := h' }) (F.gw.ofB hg hs _) (.of_same hs) off hst (hP h' hs (by simpa [LN] using hl)))
theorem gm_append {Q : Value × List Value → Shared → Prop} {a : Addr} {vs : List Value} {pl : Sem Bool} (ha : LN a vs s.heap) (h : Q (.builtin "list.append", [.ref a]) s) : wpAny (MM w) A (getMethod (.ref a) "append" pl) Q E s :=
  let ⟨_, e⟩ := ha; Calls.getMethod_list_append e rfl rfl h

/-! the statements of the law -/
noncomputable def lX (i : Nat) : Stmt := (fB (st 24)).getD i (.Pass default)
noncomputable def scL : Scope := fS (st 24)
theorem paired_words : ∀ {is : List Nat} {ys : List Value}, Paired (fun _ y => ∃ x t, y = .str (tx x) t ∧ WordOk x) is ys → ∃ ts : List (List Nat × Tok), ys = ts.map (fun p => .str (tx p.1) p.2) ∧ ts.length = is.length ∧ ∀ p ∈ ts, WordOk p.1
  | _, _, .nil => ⟨[], rfl, rfl, fun _ h => nomatch h⟩
  | _, _, .cons ⟨x, t, e, hx⟩ r => by
    obtain ⟨ts, rfl, hl, hw⟩ := paired_words r
    exact ⟨(x, t) :: ts, by rw [e]; rfl, by simp [hl], fun p hp => by rcases List.mem_cons.mp hp with rfl | hp; exact hx; exact hw p hp⟩
theorem law_words {a : Addr} {ns : List Int} {Q : Flow → Shared → Prop} (F : Fm w g true scL env s l P) (R : Rm A 3) (ha : Ints a ns g.heap) (hlen : ns.length ≤ 63) (hsc : lkp l "script" = some (.ref a))
    (h : ∀ c ws s', ws.length = 4 → (∀ x ∈ ws, WordOk x) → g.heap.objs.size ≤ c → offE env c → Fm w g true scL env s' (("words", .ref c) :: l) (fun h => Strs c ws h ∧ P h) → Q .next s') : wpAny (MM w) A (exec (lX 0) env) Q E s := by
  conv in lX 0 => whnf
  refine comp_ruleA [("script", .ref a)] ["script"] F ?_ rfl (by kernel_rfl) (by intro _; rfl) (by kernel_rfl)
  ((with_reducible refine r_call ?_); (with_reducible refine name_boot (v := ?v148) (by assumption) ?h148 ?_ (by kernel_rfl) (by kernel_rfl)); (case h148 => exact bt_range); (with_reducible refine cw_type ?_ (by kernel_rfl) (by kernel_rfl); refine i_cons ?_ (by kernel_rfl)); (with_reducible refine r_int (by assumption) ?_); intro _ _ _; (with_reducible refine i_nil ?_))
  refine range_1 (by assumption) ?_; intro rg s₁ F₁
  have hgs := F₁.gw.size
  refine ⟨_, _, 4, _, fun _ => true, fun _ y => ∃ x t, y = .str (tx x) t ∧ WordOk x, F₁, .cons hsc .nil, iter_rg (b := 4) R.handled F₁.pins.1 (by decide) (by decide), by decide, ?_, ?_⟩
  · intro cenv i x s₃ E' hi hx g₃ F₃
    obtain ⟨tk, rfl⟩ := hx
    refine tests_nil ⟨rfl, by ((refine ⟨_, by assumption, ?_⟩; intro h; first | exact h | exact h.2 | exact h.2.2 | exact h.2.2.2 | exact h.2.2.2.2)), fun _ => ?_⟩
    ((with_reducible refine r_call ?_); (with_reducible refine name_glob (v := ?v149) (by assumption) ?h149 ?_ (by kernel_rfl)); (case h149 => exact gl_law_word _))
    refine cw_fn (fn_word _) ?_ (by kernel_rfl) (by kernel_rfl)
    ((with_reducible refine i_cons ?_ (by kernel_rfl); refine r_call ?_); (with_reducible refine name_glob (v := ?v150) (by assumption) ?h150 ?_ (by kernel_rfl)); (case h150 => exact gl_law_number _))
    refine cw_fn (fn_number _) ?_ (by kernel_rfl) (by kernel_rfl)
    ((with_reducible refine i_cons ?_ (by kernel_rfl)); (with_reducible refine lkp_name (v := ?v151) (by assumption) ?h151 ?_ (by kernel_rfl)); (case h151 => repeat (first | with_reducible exact lkp_here _ _ _ | with_reducible assumption | refine lkp_there (by kernel_rfl) ?_)); (with_reducible refine i_cons ?_ (by kernel_rfl)); (with_reducible refine lkp_name (v := ?v152) (by assumption) ?h152 ?_ (by kernel_rfl)); (case h152 => repeat (first | with_reducible exact lkp_here _ _ _ | with_reducible assumption | refine lkp_there (by kernel_rfl) ?_)); (with_reducible refine i_nil ?_))
    refine ⟨F₃.Wd, number_spec (p := 0 + i) F₃.Wd (R.less (by decide)) (ha.gw (F₁.gw.trans F₃.gw)) hlen (by omega) fun t s₄ G₄ => ?_⟩
    have F₄ := F₃.gws G₄
    ((with_reducible refine i_nil ?_))
    refine ⟨F₄.Wd, word_spec F₄.Wd (R.less (by decide)) fun x t s₅ hx G₅ => ?_⟩
    have F₅ := F₄.gws G₅
    exact ⟨⟨x, t, rfl, hx⟩, ⟨_, F₅, fun h => h⟩⟩
  · intro D ys s' hD offD hp F''
    rw [filt_true] at hp
    obtain ⟨ts, rfl, hl, hw⟩ := paired_words hp
    refine h D (ts.map (·.1)) s' (by simpa using hl) (fun x hx => ?_) (Nat.le_trans hgs hD) offD (F''.weak (F.stb.and (stb_strs _ offD)) fun x => ⟨⟨ts, x.1.ls, rfl⟩, x.2.2⟩)
    obtain ⟨p, hp, rfl⟩ := List.mem_map.mp hx
    exact hw p hp
end
/-! ## the rows are placed -/

noncomputable def plB : List Stmt := forB (lX 3)
structure Ad (g : Shared) (env : Env) (I a b c : Addr) : Prop where
  ga : g.heap.objs.size ≤ a
  gb : g.heap.objs.size ≤ b
  oa : offE env a
  ob : offE env b
  oc : offE env c
  ab : a ≠ b
  ac : a ≠ c
  bc : b ≠ c
  aI : a ≠ I
  bI : b ≠ I
  cI : c ≠ I
/-- rows, due, words -/
noncomputable def PR (a b c : Addr) (xs ys ws : List (List Nat)) (h : Heap) : Prop := SN a xs h ∧ SN b ys h ∧ Strs c ws h
theorem Strs.kp {a : Addr} {xs : List (List Nat)} {h h' : Heap} (x : Strs a xs h) (k : ∀ o, h.get? a = some o → h'.get? a = some o) : Strs a xs h' := x.at fun o e _ => k o e
section
variable {w : World} {A : Around} {E : Value → Shared → Prop} {s : Shared} {g : Shared} {env : Env} {l : List (Str × Value)} {P : Heap → Prop} {I a b c : Addr} {xs ys ws : List (List Nat)}
theorem stb_pr (D : Ad g env I a b c) : Stb env (PR a b c xs ys ws) := fun h h' k x => ⟨stb_sn D.oa h h' k x.1, stb_sn D.ob h h' k x.2.1, stb_strs _ D.oc h h' k x.2.2⟩
theorem PR.kI (D : Ad g env I a b c) {h h' : Heap} (x : PR a b c xs ys ws h) (k : ∀ d o, d ≠ I → h.get? d = some o → h'.get? d = some o) : PR a b c xs ys ws h' :=
  ⟨x.1.at fun o e _ => k a o D.aI e, x.2.1.at fun o e _ => k b o D.bI e, x.2.2.kp fun o e => k c o D.cI e⟩
/-- rows.append('.' * min(1, 3 - place) + words[place]) -/
theorem p_appR {i : Nat} {t : Tok} {P' : Heap → Prop} {Q : Flow → Shared → Prop} (F : Fm w g true scL env s l P) (hh : A.handled = none) (hx : lkp l "rows" = some (.ref a)) (hpl : lkp l "place" = some (.int (i : Nat) t)) (hw : lkp l "words" = some (.ref c))
    (hi : i < 4) (hws : ws.length = 4) (hw3 : ∀ x ∈ ws, x.length ≤ 3) (hc : ∀ h, P h → Strs c ws h) (ha : ∀ h, P h → SN a xs h) (hxl : xs.length ≤ 100) (hg : g.heap.objs.size ≤ a) (off : offE env a) (hst : Stb env P')
    (hP : ∀ h h', Heap.SameBut a h h' → P h → SN a (xs ++ [str (dot i, ws.getD i [])]) h' → P' h')
    (h : ∀ s', Fm w g true scL env s' l P' → Q .next s') :
    wpAny (MM w) A (exec (plB.getD 0 (.Pass default)) env) Q E s := by
  conv in plB.getD _ _ => whnf
  refine e_expr F ?_ (by kernel_rfl) (by rfl)
  refine r_meth (pl := ?pl) ?_ ?he
  case he => exact rfl
  refine lkp_name F hx ?_ (by kernel_rfl)
  obtain ⟨ts, hln, hts⟩ := ha _ F.pins
  refine gm_append hln ?_
  clear hln
  refine cw_builtin (i_cons ?_ (by kernel_rfl)) (by kernel_rfl) (by kernel_rfl)
  ((with_reducible refine v_bin ?_; refine v_bin ?_); (with_reducible refine r_str (xs := ?x153) ?h153 (by assumption) ?_); (case h153 => exact sx1); intro _ _ _; (with_reducible refine r_call ?_); (with_reducible refine name_boot (v := ?v154) (by assumption) ?h154 ?_ (by kernel_rfl) (by kernel_rfl)); (case h154 => exact bt_min); (with_reducible refine cw_builtin ?_ (by kernel_rfl) (by kernel_rfl); refine i_cons ?_ (by kernel_rfl)); (with_reducible refine r_int (by assumption) ?_); intro _ _ _; (with_reducible refine i_cons ?_ (by kernel_rfl); refine v_bin ?_); (with_reducible refine r_int (by assumption) ?_); intro _ _ _; (with_reducible refine lkp_name (v := ?v155) (by assumption) ?h155 ?_ (by kernel_rfl)); (case h155 => repeat (first | with_reducible exact lkp_here _ _ _ | with_reducible assumption | refine lkp_there (by kernel_rfl) ?_)); (with_reducible refine o_sub (by assumption) ?_); intro _ _ _; (with_reducible refine i_nil ?_))
  refine c_min (by assumption) hh ?_; intro _ _ _
  skip
  refine o_dots (by assumption) (by omega) (by omega) ?_; intro _ _ _
  ((with_reducible refine r_sub ?_); (with_reducible refine lkp_name (v := ?v156) (by assumption) ?h156 ?_ (by kernel_rfl)); (case h156 => repeat (first | with_reducible exact lkp_here _ _ _ | with_reducible assumption | refine lkp_there (by kernel_rfl) ?_)); (with_reducible refine lkp_name (v := ?v157) (by assumption) ?h157 ?_ (by kernel_rfl)); (case h157 => repeat (first | with_reducible exact lkp_here _ _ _ | with_reducible assumption | refine lkp_there (by kernel_rfl) ?_)))
  refine cur (by assumption) ?_; intro F
  refine sub_strs (k := i) (m := ws.getD i []) (hc _ F.pins) rfl (by omega) (by rw [List.getD_eq_getElem?_getD, List.getElem?_eq_getElem (by omega)]; rfl) ?_; intro _
  skip
  have h3 : (ws.getD i []).length ≤ 3 := hw3 _ (by rw [List.getD_eq_getElem?_getD, List.getElem?_eq_getElem (by omega)]; exact List.getElem_mem _)
  have hm1 : (min 1 (3 - (i : Int))).toNat ≤ 1 := by omega
  refine o_addS (by assumption) (by simp only [List.length_replicate, sizeLine]; omega) ?_; intro t₂ s₂ F
  ((with_reducible refine i_nil ?_))
  have e : List.replicate (min 1 (3 - (i : Int))).toNat 46 ++ ws.getD i [] = str (dot i, ws.getD i []) := by
    unfold str dot
    congr 2
    split <;> omega
  rw [e]
  obtain ⟨ts, hln, hts⟩ := ha _ F.pins
  exact append_ln F hg off hln (by have := congrArg List.length hts; simp at this ⊢; omega) hst (fun h' hs hl => hP _ _ hs F.pins ⟨ts ++ [(str (dot i, ws.getD i []), t₂)], by simpa using hl, by simp [hts]⟩) fun s' F' => h s' F'
/-- due.append('.' * min(1, 3 - place) + words[place]) -/
theorem p_appD {i : Nat} {t : Tok} {P' : Heap → Prop} {Q : Flow → Shared → Prop} (F : Fm w g true scL env s l P) (hh : A.handled = none) (hx : lkp l "due" = some (.ref a)) (hpl : lkp l "place" = some (.int (i : Nat) t)) (hw : lkp l "words" = some (.ref c))
    (hi : i < 4) (hws : ws.length = 4) (hw3 : ∀ x ∈ ws, x.length ≤ 3) (hc : ∀ h, P h → Strs c ws h) (ha : ∀ h, P h → SN a xs h) (hxl : xs.length ≤ 100) (hg : g.heap.objs.size ≤ a) (off : offE env a) (hst : Stb env P')
    (hP : ∀ h h', Heap.SameBut a h h' → P h → SN a (xs ++ [str (dot i, ws.getD i [])]) h' → P' h')
    (h : ∀ s', Fm w g true scL env s' l P' → Q .next s') :
    wpAny (MM w) A (exec (plB.getD 1 (.Pass default)) env) Q E s := by
  conv in plB.getD _ _ => whnf
  refine e_expr F ?_ (by kernel_rfl) (by rfl)
  refine r_meth (pl := ?pl) ?_ ?he
  case he => exact rfl
  refine lkp_name F hx ?_ (by kernel_rfl)
  obtain ⟨ts, hln, hts⟩ := ha _ F.pins
  refine gm_append hln ?_
  clear hln
  refine cw_builtin (i_cons ?_ (by kernel_rfl)) (by kernel_rfl) (by kernel_rfl)
  ((with_reducible refine v_bin ?_; refine v_bin ?_); (with_reducible refine r_str (xs := ?x158) ?h158 (by assumption) ?_); (case h158 => exact sx1); intro _ _ _; (with_reducible refine r_call ?_); (with_reducible refine name_boot (v := ?v159) (by assumption) ?h159 ?_ (by kernel_rfl) (by kernel_rfl)); (case h159 => exact bt_min); (with_reducible refine cw_builtin ?_ (by kernel_rfl) (by kernel_rfl); refine i_cons ?_ (by kernel_rfl)); (with_reducible refine r_int (by assumption) ?_); intro _ _ _; (with_reducible refine i_cons ?_ (by kernel_rfl); refine v_bin ?_); (with_reducible refine r_int (by assumption) ?_); intro _ _ _; (with_reducible refine lkp_name (v := ?v160) (by assumption) ?h160 ?_ (by kernel_rfl)); (case h160 => repeat (first | with_reducible exact lkp_here _ _ _ | with_reducible assumption | refine lkp_there (by kernel_rfl) ?_)); (with_reducible refine o_sub (by assumption) ?_); intro _ _ _; (with_reducible refine i_nil ?_))
  refine c_min (by assumption) hh ?_; intro _ _ _
  skip
  refine o_dots (by assumption) (by omega) (by omega) ?_; intro _ _ _
  ((with_reducible refine r_sub ?_); (with_reducible refine lkp_name (v := ?v161) (by assumption) ?h161 ?_ (by kernel_rfl)); (case h161 => repeat (first | with_reducible exact lkp_here _ _ _ | with_reducible assumption | refine lkp_there (by kernel_rfl) ?_)); (with_reducible refine lkp_name (v := ?v162) (by assumption) ?h162 ?_ (by kernel_rfl)); (case h162 => repeat (first | with_reducible exact lkp_here _ _ _ | with_reducible assumption | refine lkp_there (by kernel_rfl) ?_)))
  refine cur (by assumption) ?_; intro F
  refine sub_strs (k := i) (m := ws.getD i []) (hc _ F.pins) rfl (by omega) (by rw [List.getD_eq_getElem?_getD, List.getElem?_eq_getElem (by omega)]; rfl) ?_; intro _
  skip
  have h3 : (ws.getD i []).length ≤ 3 := hw3 _ (by rw [List.getD_eq_getElem?_getD, List.getElem?_eq_getElem (by omega)]; exact List.getElem_mem _)
  have hm1 : (min 1 (3 - (i : Int))).toNat ≤ 1 := by omega
  refine o_addS (by assumption) (by simp only [List.length_replicate, sizeLine]; omega) ?_; intro t₂ s₂ F
  ((with_reducible refine i_nil ?_))
  have e : List.replicate (min 1 (3 - (i : Int))).toNat 46 ++ ws.getD i [] = str (dot i, ws.getD i []) := by
    unfold str dot
    congr 2
    split <;> omega
  rw [e]
  obtain ⟨ts, hln, hts⟩ := ha _ F.pins
  exact append_ln F hg off hln (by have := congrArg List.length hts; simp at this ⊢; omega) hst (fun h' hs hl => hP _ _ hs F.pins ⟨ts ++ [(str (dot i, ws.getD i []), t₂)], by simpa using hl, by simp [hts]⟩) fun s' F' => h s' F'
end
/-! ## the mail is sent ahead of the next row -/

section
variable {w : World} {A : Around} {E : Value → Shared → Prop} {s : Shared} {g : Shared} {env : Env} {l : List (Str × Value)} {P : Heap → Prop} {I a b c sa : Addr} {xs ys ws : List (List Nat)} {S : Heap → Prop}
theorem range_get (M : List Rw) (f : List Nat → List Nat) (hf : ∀ r ∈ M, f (str r) = str (more r)) : (List.range (M.map str).length).map (fun i => f ((M.map str).getD i [])) = (M.map more).map str := by
  apply List.ext_getElem (by simp)
  intro i h1 h2
  have hi : i < M.length := by simpa using h1
  simp [List.getD_eq_getElem?_getD, hi, hf]
/-- what stands between two sendings -/
noncomputable def UW (w : World) (g : Shared) (env : Env) (I sa c : Addr) (S : Heap → Prop) (ws : List (List Nat)) (i k : Nat) (s : Shared) : Prop :=
  ∃ M a b l, GrowW ws i M k ∧ Ad g env I a b c ∧ lkp l "rows" = some (.ref a) ∧ lkp l "due" = some (.ref b) ∧ lkp l "words" = some (.ref c) ∧ lkp l "script" = some (.ref sa) ∧ (∃ t, lkp l "place" = some (.int (i : Nat) t)) ∧ (∃ t, lkp l "right" = some (.int (k : Nat) t)) ∧
    Fm w g true scL env s l (fun h => S h ∧ PR a b c (M.map str) (M.map str) ws h)
noncomputable def uB : List Stmt := whB (plB.getD 3 (.Pass default))
theorem p_send {i k : Nat} {Q : Flow → Shared → Prop} (R : Rm A 6) (hl : ws.length = 4) (hw : ∀ x ∈ ws, WordOk x) (hi : i < 3) (hk : k < 3) (hS : Stb env S) (hIS : ∀ h : Heap, S h → I < h.objs.size)
    (U : UW w g env I sa c S ws i k s) (h : ∀ s', UW w g env I sa c S ws i (k + 1) s' → Q .next s') : wpAny (MM w) A (execs uB env) Q E s := by
  obtain ⟨M, a, b, l, G, D, hr, hd, hwd, hsc, ⟨tp, hpl⟩, ⟨tr, hri⟩, F⟩ := U
  have hok := okrows hw G.wd
  have hlen : (M.map str).length = i + 1 := by rw [List.length_map]; exact G.len
  have hsm : ∀ r ∈ M.map str, r.length ≤ 100 := fun r hr => by
    obtain ⟨q, hq, rfl⟩ := List.mem_map.mp hr
    rw [len_str']
    have h1 := G.small q hq
    have h2 : q.2 ∈ ws.take (i + 1) := G.wd ▸ List.mem_map_of_mem hq
    have h3 := (hw _ (List.mem_of_mem_take h2)).len
    omega
  conv in uB => whnf
  refine e_cons (e_assign ?_ (by kernel_rfl))
  ((with_reducible refine r_call ?_); (with_reducible refine name_glob (v := ?v163) (by assumption) ?h163 ?_ (by kernel_rfl)); (case h163 => exact gl_law_sent _))
  refine cw_fn (fn_sent _) ?_ (by kernel_rfl) (by kernel_rfl)
  ((with_reducible refine i_cons ?_ (by kernel_rfl)); (with_reducible refine lkp_name (v := ?v164) (by assumption) ?h164 ?_ (by kernel_rfl)); (case h164 => repeat (first | with_reducible exact lkp_here _ _ _ | with_reducible assumption | refine lkp_there (by kernel_rfl) ?_)); (with_reducible refine i_nil ?_))
  refine ⟨F.Wd, sent_spec F.Wd (R.less (by decide)) F.pins.2.1.strs (by omega) (by omega) (fun r hr => Nat.le_trans (hsm r hr) (by decide)) (fun r hr => by obtain ⟨q, hq, rfl⟩ := List.mem_map.mp hr; exact cl_str (hok q hq)) fun a' s₂ _ hn G₂ => ?_⟩
  obtain ⟨ha', hfr⟩ := hn (by omega)
  have hmr : (M.map str).map mrow = (M.map more).map str := by
    rw [List.map_map, List.map_map]
    exact List.map_congr_left fun r hr => mrow_str (hok r hr)
  rw [hmr] at ha'
  have oa' := F.off hfr
  have ga' := Nat.le_trans F.gw.size hfr
  have hI' : a' ≠ I := Nat.ne_of_gt (Nat.lt_of_lt_of_le (hIS _ F.pins.1) hfr)
  have hb' : b ≠ a' := Nat.ne_of_lt (Nat.lt_of_lt_of_le F.pins.2.2.1.strs.lt hfr)
  have hc' : a' ≠ c := Nat.ne_of_gt (Nat.lt_of_lt_of_le F.pins.2.2.2.lt hfr)
  have F := (F.gws G₂).pin (stb_sn oa') ha'
  ((with_reducible refine storeV (by assumption) ?_ (by kernel_rfl); intro _ _))
  refine cur (by assumption) ?_; intro F
  refine e_cons ?_
  refine comp_ruleA [] [] F ?_ rfl (by kernel_rfl) (by intro _; rfl) (by kernel_rfl)
  ((with_reducible refine lkp_name (v := ?v165) (by assumption) ?h165 ?_ (by kernel_rfl)); (case h165 => repeat (first | with_reducible exact lkp_here _ _ _ | with_reducible assumption | refine lkp_there (by kernel_rfl) ?_)))
  have hgs := F.gw.size
  have la' := F.pins.1.strs.lt
  have lI := hIS _ F.pins.2.1
  have lc := F.pins.2.2.2.2.lt
  refine ⟨_, _, (M.map str).length, _, fun _ => true, fun i y => ∃ t, y = .str (tx ([46] ++ (M.map str).getD i [])) t, F, .nil, iter_strs R.handled F.pins.2.2.2.1.strs, by simp only [sizeLine]; omega, ?_, ?_⟩
  · intro cenv j x s₃ E' hj hx g₃ F₃
    obtain ⟨x, t, hx, rfl⟩ := hx
    refine tests_nil ⟨rfl, by ((refine ⟨_, by assumption, ?_⟩; intro h; first | exact h | exact h.2 | exact h.2.2 | exact h.2.2.2 | exact h.2.2.2.2)), fun _ => ?_⟩
    ((with_reducible refine v_bin ?_); (with_reducible refine r_str (xs := ?x166) ?h166 (by assumption) ?_); (case h166 => exact sx1); intro _ _ _; (with_reducible refine lkp_name (v := ?v167) (by assumption) ?h167 ?_ (by kernel_rfl)); (case h167 => repeat (first | with_reducible exact lkp_here _ _ _ | with_reducible assumption | refine lkp_there (by kernel_rfl) ?_)))
    have hxl := hsm x (List.mem_of_getElem? hx)
    refine o_addS (by assumption) (by simp [sizeLine]; omega) ?_; intro _ _ _
    refine ⟨⟨_, by rw [List.getD_eq_getElem?_getD, hx]; rfl⟩, by ((refine ⟨_, by assumption, ?_⟩; intro h; first | exact h | exact h.2 | exact h.2.2 | exact h.2.2.2 | exact h.2.2.2.2))⟩
  intro b' ys s₄ hb oB hp F
  rw [filt_true] at hp
  have gb' : g.heap.objs.size ≤ b' := Nat.le_trans hgs hb
  have hS' : SN b' ((M.map more).map str) s₄.heap := by
    have := F.pins.1.strs hp
    rwa [range_get M (fun x => [46] ++ x) fun r hr => str_dots (G.pos hi r hr)] at this
  have D' : Ad g env I a' b' c := ⟨ga', gb', oa', oB, D.oc, Nat.ne_of_lt (Nat.lt_of_lt_of_le la' hb), hc', Nat.ne_of_gt (Nat.lt_of_lt_of_le lc hb), hI', Nat.ne_of_gt (Nat.lt_of_lt_of_le lI hb), D.cI⟩
  have F := F.weak (R := fun h => S h ∧ PR a' b' c ((M.map more).map str) ((M.map more).map str) ws h) ((stb_pr D').and hS) fun x => ⟨x.2.2.1, x.2.1, hS', x.2.2.2.2.2⟩
  ((with_reducible refine e_cons ?_; refine e_assign ?_ (by kernel_rfl); refine v_bin ?_); (with_reducible refine lkp_name (v := ?v168) (by assumption) ?h168 ?_ (by kernel_rfl)); (case h168 => repeat (first | with_reducible exact lkp_here _ _ _ | with_reducible assumption | refine lkp_there (by kernel_rfl) ?_)); (with_reducible refine r_int (by assumption) ?_); intro _ _ _; (with_reducible refine o_add (by assumption) ?_); intro _ _ _; (with_reducible refine storeV (by assumption) ?_ (by kernel_rfl)); intro _ _; (with_reducible refine e_nil ?_))
  refine cur (by assumption) ?_; intro F
  exact h _ ⟨M.map more, a', b', _, G.more hw hi, D', by ((repeat (first | (with_reducible exact lkp_here _ _ _) | (with_reducible assumption) | refine lkp_there (by kernel_rfl) ?_))), by ((repeat (first | (with_reducible exact lkp_here _ _ _) | (with_reducible assumption) | refine lkp_there (by kernel_rfl) ?_))), by ((repeat (first | (with_reducible exact lkp_here _ _ _) | (with_reducible assumption) | refine lkp_there (by kernel_rfl) ?_))), by ((repeat (first | (with_reducible exact lkp_here _ _ _) | (with_reducible assumption) | refine lkp_there (by kernel_rfl) ?_))), ⟨_, by ((repeat (first | (with_reducible exact lkp_here _ _ _) | (with_reducible assumption) | refine lkp_there (by kernel_rfl) ?_)))⟩, ⟨_, by rw [show ((k + 1 : Nat) : Int) = (k : Int) + 1 from rfl]; ((repeat (first | (with_reducible exact lkp_here _ _ _) | (with_reducible assumption) | refine lkp_there (by kernel_rfl) ?_)))⟩, F⟩
end
/-! ## the rows are placed: the loops -/

section
variable {w : World} {A : Around} {E : Value → Shared → Prop} {s : Shared} {g : Shared} {env : Env} {l : List (Str × Value)} {P : Heap → Prop} {I a b c sa : Addr} {xs ys ws : List (List Nat)} {S : Heap → Prop}
theorem t_call {f : Expr} {args : List Expr} {kws : List Keyword} {pos : Pos} {Q : Bool → Shared → Prop} (h : wpAny (MM w) A (eval (.Call f args kws pos) env) (KTr w A E Q) E s) : wpAny (MM w) A (isTrue (.Call f args kws pos) env (eval (.Call f args kws pos) env)) Q E s := wpAny_isTrue_value h
theorem getD_some {i : Nat} (h : i < ws.length) : ws[i]? = some (ws.getD i []) := by rw [List.getD_eq_getElem?_getD, List.getElem?_eq_getElem h]; rfl
theorem p_up {i : Nat} {Q : Flow → Shared → Prop} (R : Rm A 6) (hl : ws.length = 4) (hw : ∀ x ∈ ws, WordOk x) (hi : i < 4) (hS : Stb env S) (hIS : ∀ h : Heap, S h → I < h.objs.size)
    (U : UW w g env I sa c S ws i 0 s) (h : ∀ s' M a b l, Grow ws (i + 1) M → Ad g env I a b c → lkp l "rows" = some (.ref a) → lkp l "due" = some (.ref b) → lkp l "words" = some (.ref c) → lkp l "script" = some (.ref sa) →
      Fm w g true scL env s' l (fun h => S h ∧ PR a b c (M.map str) (M.map str) ws h) → Q .next s') : wpAny (MM w) A (exec (plB.getD 3 (.Pass default)) env) Q E s := by
  conv in plB.getD _ _ => whnf
  refine e_while (fun n s => ∃ k, k ≤ 3 ∧ n = 3 - k ∧ UW w g env I sa c S ws i k s) 3 ⟨0, by decide, rfl, U⟩ ?_
  rintro n s E' ⟨k, hk, rfl, U⟩
  obtain ⟨M, a, b, l, G, D, hr, hd, hwd, hsc, ⟨tp, hpl⟩, ⟨tr, hri⟩, F⟩ := U
  ((with_reducible refine t_bool ?_; refine t_and ?_; refine t_cmp ?_ (by kernel_rfl)); (with_reducible refine lkp_name (v := ?v169) (by assumption) ?h169 ?_ (by kernel_rfl)); (case h169 => repeat (first | with_reducible exact lkp_here _ _ _ | with_reducible assumption | refine lkp_there (by kernel_rfl) ?_)); (with_reducible refine r_int (by assumption) ?_); intro _ _ _; (with_reducible refine lt_int ?_; refine wpAny_truthy_bool ?_))
  by_cases h3 : i < 3
  case neg =>
    refine and_f (decide_eq_false (by omega)) (wh_f rfl ?_)
    refine cur (by assumption) ?_; intro F
    exact h _ M a b l (G.done hk fun h => absurd h h3) D hr hd hwd hsc F
  refine and_t (decide_eq_true (by omega)) ?_
  ((with_reducible refine t_and ?_; refine t_not ?_))
  refine t_call ?_
  ((with_reducible refine r_call ?_); (with_reducible refine name_glob (v := ?v170) (by assumption) ?h170 ?_ (by kernel_rfl)); (case h170 => exact gl_law_fits _))
  refine cw_fn (fn_fits _) ?_ (by kernel_rfl) (by kernel_rfl)
  ((with_reducible refine i_cons ?_ (by kernel_rfl); refine r_sub ?_); (with_reducible refine lkp_name (v := ?v171) (by assumption) ?h171 ?_ (by kernel_rfl)); (case h171 => repeat (first | with_reducible exact lkp_here _ _ _ | with_reducible assumption | refine lkp_there (by kernel_rfl) ?_)); (with_reducible refine lkp_name (v := ?v172) (by assumption) ?h172 ?_ (by kernel_rfl)); (case h172 => repeat (first | with_reducible exact lkp_here _ _ _ | with_reducible assumption | refine lkp_there (by kernel_rfl) ?_)))
  refine cur (by assumption) ?_; intro F
  refine sub_strs (k := i) (m := ws.getD i []) F.pins.2.2.2 rfl (by omega) (getD_some (by omega)) ?_; intro _
  ((with_reducible refine i_cons ?_ (by kernel_rfl); refine r_sub ?_); (with_reducible refine lkp_name (v := ?v173) (by assumption) ?h173 ?_ (by kernel_rfl)); (case h173 => repeat (first | with_reducible exact lkp_here _ _ _ | with_reducible assumption | refine lkp_there (by kernel_rfl) ?_)); (with_reducible refine v_bin ?_); (with_reducible refine lkp_name (v := ?v174) (by assumption) ?h174 ?_ (by kernel_rfl)); (case h174 => repeat (first | with_reducible exact lkp_here _ _ _ | with_reducible assumption | refine lkp_there (by kernel_rfl) ?_)); (with_reducible refine r_int (by assumption) ?_); intro _ _ _; (with_reducible refine o_add (by assumption) ?_); intro _ _ _)
  refine cur (by assumption) ?_; intro F
  refine sub_strs (k := i + 1) (m := ws.getD (i + 1) []) F.pins.2.2.2 rfl (by omega) (getD_some (by omega)) ?_; intro _
  ((with_reducible refine i_cons ?_ (by kernel_rfl)); (with_reducible refine lkp_name (v := ?v175) (by assumption) ?h175 ?_ (by kernel_rfl)); (case h175 => repeat (first | with_reducible exact lkp_here _ _ _ | with_reducible assumption | refine lkp_there (by kernel_rfl) ?_)); (with_reducible refine i_nil ?_))
  have hm : ∀ j, j < 4 → (ws.getD j []).length ≤ 3 := fun j hj => (hw _ (List.mem_of_getElem? (getD_some (ws := ws) (i := j) (by omega)))).len
  refine ⟨F.Wd, fits_spec F.Wd (R.less (by decide)) (hm i hi) (hm (i + 1) (by omega)) (by omega) fun ok s₂ hok G₂ => ?_⟩
  have F := F.gws G₂
  refine wpAny_truthy_bool ?_
  cases ok with
  | true =>
    refine and_f rfl (wh_f rfl ?_)
    exact h _ M a b l (G.done hk fun _ => hok.mp rfl) D hr hd hwd hsc F
  | false =>
    have hk3 : k < 3 := by
      rcases Nat.lt_or_ge k 3 with q | q
      · exact q
      · exact absurd (hok.mpr (cov_drop3 (hm (i + 1) (by omega)) q)) (by decide)
    refine and_t rfl (and_nil (wh_t rfl ?_))
    exact p_send R hl hw h3 hk3 hS hIS ⟨M, a, b, l, G, D, hr, hd, hwd, hsc, ⟨tp, hpl⟩, ⟨tr, hri⟩, F⟩ fun s' U' => ⟨rfl, 3 - (k + 1), by omega, k + 1, by omega, rfl, U'⟩
end
/-! ## the first loop -/

section
variable {w : World} {A : Around} {E : Value → Shared → Prop} {s : Shared} {g : Shared} {env : Env} {l : List (Str × Value)} {P : Heap → Prop} {a b c sa : Addr} {ws : List (List Nat)}
noncomputable def PJx (g : Shared) (env : Env) (sa c : Addr) (ws : List (List Nat)) (I : Addr) (i : Nat) (l : List (Str × Value)) (P : Heap → Prop) : Prop :=
  ∃ L a b, Grow ws i L ∧ Ad g env I a b c ∧ lkp l "rows" = some (.ref a) ∧ lkp l "due" = some (.ref b) ∧ lkp l "words" = some (.ref c) ∧ lkp l "script" = some (.ref sa) ∧ P = PR a b c (L.map str) (L.map str) ws
theorem law_place {Q : Flow → Shared → Prop} (R : Rm A 6) (hl : ws.length = 4) (hw : ∀ x ∈ ws, WordOk x) (F : Fm w g true scL env s l (PR a b c [] [] ws)) (ga : g.heap.objs.size ≤ a) (gb : g.heap.objs.size ≤ b) (oa : offE env a) (ob : offE env b) (oc : offE env c) (ab : a ≠ b) (ac : a ≠ c) (bc : b ≠ c)
    (hr : lkp l "rows" = some (.ref a)) (hd : lkp l "due" = some (.ref b)) (hwd : lkp l "words" = some (.ref c)) (hsc : lkp l "script" = some (.ref sa))
    (h : ∀ s' L a b l, Grow ws 4 L → offE env a → offE env b → lkp l "rows" = some (.ref a) → lkp l "due" = some (.ref b) → lkp l "words" = some (.ref c) → lkp l "script" = some (.ref sa) →
      Fm w g true scL env s' l (PR a b c (L.map str) (L.map str) ws) → Q .next s') : wpAny (MM w) A (exec (lX 3) env) Q E s := by
  conv in lX 3 => whnf
  refine for_rg (g := g) (sc := scL) (n := 4) (PJx g env sa c ws) R.handled (by decide) ?_ ?_ (by kernel_rfl) ?_ ?_ (by intro _; rfl)
  · ((with_reducible refine r_call ?_); (with_reducible refine name_boot (v := ?v176) (by assumption) ?h176 ?_ (by kernel_rfl) (by kernel_rfl)); (case h176 => exact bt_range); (with_reducible refine cw_type ?_ (by kernel_rfl) (by kernel_rfl); refine i_cons ?_ (by kernel_rfl)); (with_reducible refine r_int (by assumption) ?_); intro _ _ _; (with_reducible refine i_nil ?_))
    have la := F.pins.1.strs.lt
    have lb := F.pins.2.1.strs.lt
    have lc := F.pins.2.2.lt
    refine cur (by assumption) ?_; intro F₁
    have hsz := F₁.pins.1.strs.lt
    refine range_1 F₁ fun r s₁ F₂ => ?_
    have la := F₂.pins.2.1.strs.lt
    have lb := F₂.pins.2.2.1.strs.lt
    have lc := F₂.pins.2.2.2.lt
    refine ⟨r, l, _, rfl, F₂.pins.1, F₂.weak (stb_pr (I := s₁.heap.objs.size) ⟨ga, gb, oa, ob, oc, ab, ac, bc, Nat.ne_of_lt la, Nat.ne_of_lt lb, Nat.ne_of_lt lc⟩) fun x => x.2, fun I hI => ?_⟩
    exact ⟨[], a, b, ⟨rfl, rfl, trivial, fun _ _ h => (nomatch h), fun _ h => (nomatch h), fun _ _ h => (nomatch h)⟩, ⟨ga, gb, oa, ob, oc, ab, ac, bc, Nat.ne_of_lt (Nat.lt_of_lt_of_le la hI), Nat.ne_of_lt (Nat.lt_of_lt_of_le lb hI), Nat.ne_of_lt (Nat.lt_of_lt_of_le lc hI)⟩, hr, hd, hwd, hsc, rfl⟩
  · rintro I i l P ⟨L, a, b, G, D, _, _, _, _, rfl⟩
    exact ⟨stb_pr D, fun h h' k x => x.kI D k⟩
  · rintro I S i s l P t E' hi ⟨L, a, b, G, D, hr, hd, hwd, hsc, rfl⟩ hS hSI hIS F
    have hw3 : ∀ x ∈ ws, x.length ≤ 3 := fun x hx => (hw x hx).len
    have hLl : (L.map str).length ≤ 100 := by rw [List.length_map, G.len]; omega
    have e : L.map str ++ [str (dot i, ws.getD i [])] = (L ++ [(dot i, ws.getD i [])]).map str := by simp
    have sI : ∀ {d : Addr} {h h' : Heap}, d ≠ I → Heap.SameBut d h h' → S h → S h' := fun hd hs x => hSI _ _ (fun ob e => hs.extBut _ _ (Ne.symm hd) e) x
    refine e_cons (p_appR (P' := fun h => S h ∧ PR a b c ((L ++ [(dot i, ws.getD i [])]).map str) (L.map str) ws h) F R.handled (by ((repeat (first | (with_reducible exact lkp_here _ _ _) | (with_reducible assumption) | refine lkp_there (by kernel_rfl) ?_)))) (lkp_here _ _ _) (by ((repeat (first | (with_reducible exact lkp_here _ _ _) | (with_reducible assumption) | refine lkp_there (by kernel_rfl) ?_)))) hi hl hw3 (fun h x => x.2.2.2) (fun h x => x.2.1) hLl D.ga D.oa ((stb_pr D).and hS)
      (fun h h' hs x y => ⟨sI D.aI hs x.1, e ▸ y, x.2.2.1.at fun o q _ => hs.extBut _ _ (Ne.symm D.ab) q, x.2.2.2.kp fun o q => hs.extBut _ _ (Ne.symm D.ac) q⟩) fun s₁ F₁ => ?_)
    refine e_cons (p_appD (P' := fun h => S h ∧ PR a b c ((L ++ [(dot i, ws.getD i [])]).map str) ((L ++ [(dot i, ws.getD i [])]).map str) ws h) F₁ R.handled (by ((repeat (first | (with_reducible exact lkp_here _ _ _) | (with_reducible assumption) | refine lkp_there (by kernel_rfl) ?_)))) (lkp_here _ _ _) (by ((repeat (first | (with_reducible exact lkp_here _ _ _) | (with_reducible assumption) | refine lkp_there (by kernel_rfl) ?_)))) hi hl hw3 (fun h x => x.2.2.2) (fun h x => x.2.2.1) hLl D.gb D.ob ((stb_pr D).and hS)
      (fun h h' hs x y => ⟨sI D.bI hs x.1, x.2.1.at fun o q _ => hs.extBut _ _ D.ab q, e ▸ y, x.2.2.2.kp fun o q => hs.extBut _ _ (Ne.symm D.bc) q⟩) fun s₂ F₂ => ?_)
    refine e_cons (e_assign (r_int F₂ fun t₃ s₃ F₃ => storeV F₃ (fun s₄ F₄ => ?_) (by kernel_rfl)) (by kernel_rfl))
    refine e_cons (p_up R hl hw hi hS hIS ⟨_, a, b, _, G.push hl hw hi, D, by ((repeat (first | (with_reducible exact lkp_here _ _ _) | (with_reducible assumption) | refine lkp_there (by kernel_rfl) ?_))), by ((repeat (first | (with_reducible exact lkp_here _ _ _) | (with_reducible assumption) | refine lkp_there (by kernel_rfl) ?_))), by ((repeat (first | (with_reducible exact lkp_here _ _ _) | (with_reducible assumption) | refine lkp_there (by kernel_rfl) ?_))), by ((repeat (first | (with_reducible exact lkp_here _ _ _) | (with_reducible assumption) | refine lkp_there (by kernel_rfl) ?_))), ⟨_, lkp_there (by kernel_rfl) (lkp_here _ _ _)⟩, ⟨_, lkp_here _ _ _⟩, F₄⟩ ?_)
    intro s₅ M a b l G' D' hr hd hwd hsc F₅
    exact e_nil ⟨rfl, l, _, ⟨M, a, b, G', D', hr, hd, hwd, hsc, rfl⟩, F₅⟩
  · rintro I s l P ⟨L, a, b, G, D, hr, hd, hwd, hsc, rfl⟩ F
    exact h s L a b l G D.oa D.ob hr hd hwd hsc F
end
/-! ## the second loop: one turn -/

section
variable {w : World} {A : Around} {E : Value → Shared → Prop} {s : Shared} {g : Shared} {env : Env} {l : List (Str × Value)} {P : Heap → Prop} {a b c sa : Addr} {ws : List (List Nat)} {W0 : List Nat} {ns : List Int}
noncomputable def ifT : Stmt → Expr
  | .If t _ _ _ => t
  | _ => .Constant .none 0 default
noncomputable def tB : List Stmt := whB (lX 5)
theorem p_cond {turn : Nat} {m : Int} {t u : Tok} {wh : Sem Value} {Q : Bool → Shared → Prop} (F : Fm w g true scL env s l P) (ht : lkp l "turn" = some (.int (turn : Nat) t)) (hn : lkp l "number" = some (.int m u))
    (k : ∀ cnd s', (cnd = true → turn < 4) → Fm w g true scL env s' l P → Q cnd s') :
    wpAny (MM w) A (isTrue (ifT (tB.getD 4 (.Pass default))) env wh) Q E s := by
  conv in ifT _ => whnf
  ((with_reducible refine t_bool ?_; refine t_or ?_; refine t_cmp ?_ (by kernel_rfl)); (with_reducible refine lkp_name (v := ?v177) (by assumption) ?h177 ?_ (by kernel_rfl)); (case h177 => repeat (first | with_reducible exact lkp_here _ _ _ | with_reducible assumption | refine lkp_there (by kernel_rfl) ?_)); (with_reducible refine r_int (by assumption) ?_); intro _ _ _; (with_reducible refine eq_int ?_; refine wpAny_truthy_bool ?_))
  by_cases h0 : turn = 0
  · refine or_t (by simp [h0]) ?_
    exact k _ _ (fun _ => by omega) (by assumption)
  refine or_f (by simp [h0]) ?_
  ((with_reducible refine t_or ?_; refine t_bool ?_; refine t_and ?_; refine t_cmp ?_ (by kernel_rfl)); (with_reducible refine lkp_name (v := ?v178) (by assumption) ?h178 ?_ (by kernel_rfl)); (case h178 => repeat (first | with_reducible exact lkp_here _ _ _ | with_reducible assumption | refine lkp_there (by kernel_rfl) ?_)); (with_reducible refine r_int (by assumption) ?_); intro _ _ _; (with_reducible refine lt_int ?_; refine wpAny_truthy_bool ?_))
  by_cases h4 : turn < 4
  case neg =>
    refine and_f (decide_eq_false (by omega)) ?_
    refine or_f rfl ?_
    ((with_reducible refine or_nil ?_))
    exact k _ _ (fun h => nomatch h) (by assumption)
  refine and_t (decide_eq_true (by omega)) ?_
  ((with_reducible refine t_and ?_; refine t_cmp ?_ (by kernel_rfl); refine v_bin ?_); (with_reducible refine lkp_name (v := ?v179) (by assumption) ?h179 ?_ (by kernel_rfl)); (case h179 => repeat (first | with_reducible exact lkp_here _ _ _ | with_reducible assumption | refine lkp_there (by kernel_rfl) ?_)); (with_reducible refine r_int (by assumption) ?_); intro _ _ _; (with_reducible refine o_modI (by assumption) ?_ (by decide)); intro _ _ _; (with_reducible refine r_int (by assumption) ?_); intro _ _ _; (with_reducible refine eq_int ?_; refine wpAny_truthy_bool ?_))
  by_cases h2 : m % 2 = 1
  · refine and_t (by simp [h2]) ?_
    ((with_reducible refine and_nil ?_))
    refine or_t rfl ?_
    exact k _ _ (fun _ => h4) (by assumption)
  · refine and_f (by simp [h2]) ?_
    refine or_f rfl ?_
    ((with_reducible refine or_nil ?_))
    exact k _ _ (fun h => nomatch h) (by assumption)
end
/-! ## the second loop -/

section
variable {w : World} {A : Around} {E : Value → Shared → Prop} {s : Shared} {g : Shared} {env : Env} {l : List (Str × Value)} {P : Heap → Prop} {a b c sa : Addr} {ws : List (List Nat)} {W0 : List Nat} {ns : List Int}
/-- rows, due, words; rows and due alike -/
noncomputable def TR (a b c : Addr) (xs ws : List (List Nat)) (h : Heap) : Prop := Strs a xs h ∧ Strs b xs h ∧ Strs c ws h
theorem stb_tr {xs : List (List Nat)} (oa : offE env a) (ob : offE env b) (oc : offE env c) : Stb env (TR a b c xs ws) := fun h h' k x => ⟨stb_strs _ oa h h' k x.1, stb_strs _ ob h h' k x.2.1, stb_strs _ oc h h' k x.2.2⟩
noncomputable def UT (w : World) (g : Shared) (env : Env) (sa c : Addr) (ws : List (List Nat)) (W0 : List Nat) (n : Nat) (s : Shared) : Prop :=
  ∃ L a b l turn, n = dotsOf L + 5 * (4 - turn) ∧ Tabl W0 turn L ∧ offE env a ∧ offE env b ∧ lkp l "rows" = some (.ref a) ∧ lkp l "due" = some (.ref b) ∧ lkp l "words" = some (.ref c) ∧ lkp l "script" = some (.ref sa) ∧ (∃ t, lkp l "turn" = some (.int (turn : Nat) t)) ∧ Fm w g true scL env s l (TR a b c (L.map str) ws)
theorem sok_str {L : List Rw} (h : ∀ r ∈ L, OkRow r) : SOk (L.map str) := fun x hx c hc => by
  obtain ⟨r, hr, rfl⟩ := List.mem_map.mp hx
  have := mem_str (h r hr) c hc; omega
theorem ready_at {xs : List (List Nat)} {k : Nat} (h : k < (readyL xs).length) : ∃ p, (readyL xs)[k]? = some ((p : Nat) : Int) ∧ p < xs.length ∧ readyP xs p = true := by
  unfold readyL at h ⊢
  rw [List.length_map] at h
  have hm := List.getElem_mem h
  obtain ⟨h1, h2⟩ := List.mem_filter.mp hm
  refine ⟨_, ?_, by simpa using h1, h2⟩
  rw [List.getElem?_map, List.getElem?_eq_getElem h]; rfl
theorem p_fill {turn : Nat} {L : List Rw} {Q : Flow → Shared → Prop} (R : Rm A 6) (hW : W0.length ≤ 12) (ha : Ints sa ns g.heap) (hns : ns.length ≤ 63) (oc : offE env c) (T : Tabl W0 turn L) (hne : readyL (L.map str) ≠ []) (oa : offE env a) (ob : offE env b)
    (hr : lkp l "rows" = some (.ref a)) (hd : lkp l "due" = some (.ref b)) (hwd : lkp l "words" = some (.ref c)) (hsc : lkp l "script" = some (.ref sa)) {tt : Tok} (ht : lkp l "turn" = some (.int (turn : Nat) tt)) (F : Fm w g true scL env s l (TR a b c (L.map str) ws))
    (h : ∀ n s', n < dotsOf L + 5 * (4 - turn) → UT w g env sa c ws W0 n s' → Q .next s') : wpAny (MM w) A (execs tB env) Q E s := by
  have hxl : (L.map str).length = 4 := by rw [List.length_map]; exact T.len
  conv in tB => whnf
  refine e_cons (e_assign ?_ (by kernel_rfl))
  ((with_reducible refine r_call ?_); (with_reducible refine name_glob (v := ?v180) (by assumption) ?h180 ?_ (by kernel_rfl)); (case h180 => exact gl_law_number _))
  refine cw_fn (fn_number _) ?_ (by kernel_rfl) (by kernel_rfl)
  ((with_reducible refine i_cons ?_ (by kernel_rfl)); (with_reducible refine lkp_name (v := ?v181) (by assumption) ?h181 ?_ (by kernel_rfl)); (case h181 => repeat (first | with_reducible exact lkp_here _ _ _ | with_reducible assumption | refine lkp_there (by kernel_rfl) ?_)); (with_reducible refine i_cons ?_ (by kernel_rfl); refine v_bin ?_); (with_reducible refine r_int (by assumption) ?_); intro _ _ _; (with_reducible refine v_bin ?_); (with_reducible refine lkp_name (v := ?v182) (by assumption) ?h182 ?_ (by kernel_rfl)); (case h182 => repeat (first | with_reducible exact lkp_here _ _ _ | with_reducible assumption | refine lkp_there (by kernel_rfl) ?_)); (with_reducible refine r_int (by assumption) ?_); intro _ _ _; (with_reducible refine o_modI (by assumption) ?_ (by decide)); intro _ _ _; (with_reducible refine o_add (by assumption) ?_); intro _ _ _; (with_reducible refine i_nil ?_))
  rw [show (4 : Int) + (turn : Int) % 4 = ((4 + turn % 4 : Nat) : Int) from by omega]
  refine cur (by assumption) ?_; intro F
  refine ⟨F.Wd, number_spec F.Wd (R.less (by decide)) (ha.gw F.gw) hns (by omega) fun t₁ s₁ G₁ => ?_⟩
  have F := F.gws G₁
  generalize numF ns (4 + turn % 4) = m
  ((with_reducible refine storeV (by assumption) ?_ (by kernel_rfl)); intro _ _; (with_reducible refine e_cons ?_; refine e_assign ?_ (by kernel_rfl); refine r_call ?_); (with_reducible refine name_glob (v := ?v183) (by assumption) ?h183 ?_ (by kernel_rfl)); (case h183 => exact gl_law_ready _))
  refine cw_fn (fn_ready _) ?_ (by kernel_rfl) (by kernel_rfl)
  ((with_reducible refine i_cons ?_ (by kernel_rfl)); (with_reducible refine lkp_name (v := ?v184) (by assumption) ?h184 ?_ (by kernel_rfl)); (case h184 => repeat (first | with_reducible exact lkp_here _ _ _ | with_reducible assumption | refine lkp_there (by kernel_rfl) ?_)); (with_reducible refine i_nil ?_))
  refine cur (by assumption) ?_; intro F
  refine ⟨F.Wd, ready_spec F.Wd (R.less (by decide)) F.pins.1 (by omega) fun pl s₂ hpl G₂ => ?_⟩
  have F := F.gws G₂
  have opl : offE env pl := Ints.off hpl F
  have F := F.pin (stb_ints _ opl) hpl
  ((with_reducible refine storeV (by assumption) ?_ (by kernel_rfl)); intro _ _; (with_reducible refine e_cons ?_; refine e_assign ?_ (by kernel_rfl); refine r_call ?_); (with_reducible refine name_glob (v := ?v185) (by assumption) ?h185 ?_ (by kernel_rfl)); (case h185 => exact gl_law_filled _))
  refine cw_fn (fn_filled _) ?_ (by kernel_rfl) (by kernel_rfl)
  ((with_reducible refine i_cons ?_ (by kernel_rfl)); (with_reducible refine lkp_name (v := ?v186) (by assumption) ?h186 ?_ (by kernel_rfl)); (case h186 => repeat (first | with_reducible exact lkp_here _ _ _ | with_reducible assumption | refine lkp_there (by kernel_rfl) ?_)); (with_reducible refine i_cons ?_ (by kernel_rfl); refine r_sub ?_); (with_reducible refine lkp_name (v := ?v187) (by assumption) ?h187 ?_ (by kernel_rfl)); (case h187 => repeat (first | with_reducible exact lkp_here _ _ _ | with_reducible assumption | refine lkp_there (by kernel_rfl) ?_)); (with_reducible refine v_bin ?_; refine v_bin ?_); (with_reducible refine lkp_name (v := ?v188) (by assumption) ?h188 ?_ (by kernel_rfl)); (case h188 => repeat (first | with_reducible exact lkp_here _ _ _ | with_reducible assumption | refine lkp_there (by kernel_rfl) ?_)); (with_reducible refine r_int (by assumption) ?_); intro _ _ _; (with_reducible refine o_divI (by assumption) ?_ (by decide) (by decide)); intro _ _ _; (with_reducible refine r_call ?_); (with_reducible refine name_boot (v := ?v189) (by assumption) ?h189 ?_ (by kernel_rfl) (by kernel_rfl)); (case h189 => exact bt_len); (with_reducible refine cw_builtin ?_ (by kernel_rfl) (by kernel_rfl); refine i_cons ?_ (by kernel_rfl)); (with_reducible refine lkp_name (v := ?v190) (by assumption) ?h190 ?_ (by kernel_rfl)); (case h190 => repeat (first | with_reducible exact lkp_here _ _ _ | with_reducible assumption | refine lkp_there (by kernel_rfl) ?_)); (with_reducible refine i_nil ?_))
  refine cur (by assumption) ?_; intro F
  have hrl : (readyL (L.map str)).length ≤ 4 := by
    unfold readyL
    rw [List.length_map]
    exact Nat.le_trans (List.length_filter_le _ _) (by rw [List.length_range]; omega)
  have hrp : 0 < (readyL (L.map str)).length := List.length_pos_iff.mpr hne
  obtain ⟨ts, hts, hte⟩ := id F.pins.1
  have htl : (intV ts).length = (readyL (L.map str)).length := by rw [← hte]; simp [intV]
  refine len_ls F hts (by omega) ?_; intro _ _ F
  rw [htl]
  generalize hlr : (readyL (L.map str)).length = r at *
  skip
  refine o_modI (by assumption) ?_ (by omega); intro _ _ F
  obtain ⟨k, hk, hkr⟩ : ∃ k : Nat, m / 2 % (r : Int) = k ∧ k < r := ⟨(m / 2 % (r : Int)).toNat, by have := Int.emod_nonneg (m / 2) (b := (r : Int)) (by omega); omega, by have := Int.emod_nonneg (m / 2) (b := (r : Int)) (by omega); have := Int.emod_lt_of_pos (m / 2) (b := (r : Int)) (by omega); omega⟩
  rw [hk]
  obtain ⟨p, hp1, hp2, hp3⟩ := ready_at (xs := L.map str) (k := k) (by omega)
  refine sub_ints (k := k) F.pins.1 rfl (by omega) hp1 ?_; intro _
  ((with_reducible refine i_nil ?_))
  obtain ⟨d, x, L', e1, e2, e3, T', e4⟩ := T.fill (by omega) hp3
  have hsm := T.small hW
  have hsm' := T'.small hW
  refine cur (by assumption) ?_; intro F
  refine ⟨F.Wd, filled_spec F.Wd (R.less (by decide)) F.pins.2.1 (by omega) (fun r hr => Nat.le_trans (hsm r hr) (by decide)) (fun r hr c hc => by obtain ⟨q, hq, rfl⟩ := List.mem_map.mp hr; have := mem_str (T.ok q hq) c hc; omega) e1 e2
    (fun r hr => by rw [e3] at hr; exact Nat.le_trans (hsm' r hr) (by decide)) fun a' s₃ ha' G₃ => ?_⟩
  rw [e3] at ha'
  have F := F.gws G₃
  have oa' : offE env a' := Strs.off ha' F
  have F := F.weak (R := TR a' a' c (L'.map str) ws) (stb_tr oa' oa' oc) fun x => ⟨ha', ha', x.2.2.2⟩
  have hs4 : dotsOf L' + 5 * (4 - turn) ≤ 100 := by have := T.dots; omega
  have hxl' : (L'.map str).length = 4 := by rw [List.length_map]; exact T'.len
  ((with_reducible refine storeV (by assumption) ?_ (by kernel_rfl); intro _ _))
  refine e_cons (e_assign ?_ (by kernel_rfl))
  ((with_reducible refine lkp_name (v := ?v) (by assumption) ?hv ?_ (by kernel_rfl); (case hv => ((repeat (first | (with_reducible exact lkp_here _ _ _) | (with_reducible assumption) | refine lkp_there (by kernel_rfl) ?_))))))
  ((with_reducible refine storeV (by assumption) ?_ (by kernel_rfl); intro _ _))
  refine e_cons (e_if ?_)
  refine cur (by assumption) ?_; intro F
  refine p_cond (turn := turn) (m := m) F (by ((repeat (first | (with_reducible exact lkp_here _ _ _) | (with_reducible assumption) | refine lkp_there (by kernel_rfl) ?_)))) (by ((repeat (first | (with_reducible exact lkp_here _ _ _) | (with_reducible assumption) | refine lkp_there (by kernel_rfl) ?_)))) fun cnd s₄ hc F => ?_
  cases cnd with
  | false =>
    refine if_f rfl ?_
    ((with_reducible refine e_nil ?_; refine e_cons ?_; refine e_assign ?_ (by kernel_rfl); refine v_bin ?_); (with_reducible refine lkp_name (v := ?v191) (by assumption) ?h191 ?_ (by kernel_rfl)); (case h191 => repeat (first | with_reducible exact lkp_here _ _ _ | with_reducible assumption | refine lkp_there (by kernel_rfl) ?_)); (with_reducible refine r_int (by assumption) ?_); intro _ _ _; (with_reducible refine o_add (by assumption) ?_); intro _ _ _; (with_reducible refine storeV (by assumption) ?_ (by kernel_rfl)); intro _ _; (with_reducible refine e_nil ?_))
    refine cur (by assumption) ?_; intro F
    exact h _ _ (by omega) ⟨L', a', a', _, turn + 1, rfl, T', oa', oa', by ((repeat (first | (with_reducible exact lkp_here _ _ _) | (with_reducible assumption) | refine lkp_there (by kernel_rfl) ?_))), by ((repeat (first | (with_reducible exact lkp_here _ _ _) | (with_reducible assumption) | refine lkp_there (by kernel_rfl) ?_))), by ((repeat (first | (with_reducible exact lkp_here _ _ _) | (with_reducible assumption) | refine lkp_there (by kernel_rfl) ?_))), by ((repeat (first | (with_reducible exact lkp_here _ _ _) | (with_reducible assumption) | refine lkp_there (by kernel_rfl) ?_))), ⟨_, by rw [show ((turn + 1 : Nat) : Int) = (turn : Int) + 1 from rfl]; ((repeat (first | (with_reducible exact lkp_here _ _ _) | (with_reducible assumption) | refine lkp_there (by kernel_rfl) ?_)))⟩, F⟩
  | true =>
    obtain ⟨T2, hlt⟩ := T'.send hs4 (hc rfl)
    refine if_t rfl ?_
    refine e_cons ?_
    refine comp_ruleA [] [] F ?_ rfl (by kernel_rfl) (by intro _; rfl) (by kernel_rfl)
    ((with_reducible refine lkp_name (v := ?v) (by assumption) ?hv ?_ (by kernel_rfl); (case hv => ((repeat (first | (with_reducible exact lkp_here _ _ _) | (with_reducible assumption) | refine lkp_there (by kernel_rfl) ?_))))))
    refine ⟨_, _, (L'.map str).length, _, fun _ => true, fun i y => ∃ t, y = .str (tx (List.replicate (min 1 (dts ((L'.map str).getD i []) : Int)).toNat 46 ++ (L'.map str).getD i [])) t, F, .nil, iter_strs R.handled F.pins.1, by simp only [sizeLine]; omega, ?_, ?_⟩
    · intro cenv j x s₅ E' hj hx g₃ F₃
      obtain ⟨x, t, hx, rfl⟩ := hx
      refine tests_nil ⟨rfl, by ((refine ⟨_, by assumption, ?_⟩; intro h; first | exact h | exact h.2 | exact h.2.2 | exact h.2.2.2 | exact h.2.2.2.2)), fun _ => ?_⟩
      ((with_reducible refine v_bin ?_; refine v_bin ?_); (with_reducible refine r_str (xs := ?x192) ?h192 (by assumption) ?_); (case h192 => exact sx1); intro _ _ _; (with_reducible refine r_call ?_); (with_reducible refine name_boot (v := ?v193) (by assumption) ?h193 ?_ (by kernel_rfl) (by kernel_rfl)); (case h193 => exact bt_min); (with_reducible refine cw_builtin ?_ (by kernel_rfl) (by kernel_rfl); refine i_cons ?_ (by kernel_rfl)); (with_reducible refine r_int (by assumption) ?_); intro _ _ _; (with_reducible refine i_cons ?_ (by kernel_rfl)); (with_reducible refine r_meth (pl := ?p194) ?_ ?e194); (case e194 => exact rfl); (with_reducible refine lkp_name (v := ?v195) (by assumption) ?h195 ?_ (by kernel_rfl)); (case h195 => repeat (first | with_reducible exact lkp_here _ _ _ | with_reducible assumption | refine lkp_there (by kernel_rfl) ?_)); (with_reducible refine GM.count ?_; refine cw_builtin ?_ (by kernel_rfl) (by kernel_rfl); refine i_cons ?_ (by kernel_rfl)); (with_reducible refine r_str (xs := ?x196) ?h196 (by assumption) ?_); (case h196 => exact sx1); intro _ _ _; (with_reducible refine i_nil ?_))
      refine count_tx (by assumption) ?_; intro _ _ _
      ((with_reducible refine i_nil ?_))
      refine c_min (by assumption) R.handled ?_; intro _ _ _
      skip
      refine o_dots (by assumption) (by omega) (by omega) ?_; intro _ _ _
      ((with_reducible refine lkp_name (v := ?v197) (by assumption) ?h197 ?_ (by kernel_rfl)); (case h197 => repeat (first | with_reducible exact lkp_here _ _ _ | with_reducible assumption | refine lkp_there (by kernel_rfl) ?_)))
      have hx1 := hsm' x (List.mem_of_getElem? hx)
      have hm1 : (min 1 (dts x : Int)).toNat ≤ 1 := by omega
      refine o_addS (by assumption) (by simp only [List.length_replicate, sizeLine]; omega) ?_; intro _ _ _
      refine ⟨⟨_, by rw [List.getD_eq_getElem?_getD, hx]; rfl⟩, by ((refine ⟨_, by assumption, ?_⟩; intro h; first | exact h | exact h.2 | exact h.2.2 | exact h.2.2.2 | exact h.2.2.2.2))⟩
    intro b' ys s₅ hb ob' hp F
    rw [filt_true] at hp
    have hS' : Strs b' ((L'.map more).map str) s₅.heap := by
      have := (F.pins.1.strs hp).strs
      rwa [range_get L' (fun x => List.replicate (min 1 (dts x : Int)).toNat 46 ++ x) fun r hr => by
        rw [dts_str (T'.ok r hr)]
        rcases Nat.eq_zero_or_pos r.1 with h0 | h0
        · rw [h0]; unfold str more; rw [if_pos h0, h0]; rfl
        · rw [← str_dots h0, show (min 1 (r.1 : Int)).toNat = 1 by omega]; rfl] at this
    refine e_cons (e_assign ?_ (by kernel_rfl))
    ((with_reducible refine r_call ?_); (with_reducible refine name_glob (v := ?v198) (by assumption) ?h198 ?_ (by kernel_rfl)); (case h198 => exact gl_law_sent _))
    refine cw_fn (fn_sent _) ?_ (by kernel_rfl) (by kernel_rfl)
    ((with_reducible refine i_cons ?_ (by kernel_rfl)); (with_reducible refine lkp_name (v := ?v199) (by assumption) ?h199 ?_ (by kernel_rfl)); (case h199 => repeat (first | with_reducible exact lkp_here _ _ _ | with_reducible assumption | refine lkp_there (by kernel_rfl) ?_)); (with_reducible refine i_nil ?_))
    refine ⟨F.Wd, sent_spec F.Wd (R.less (by decide)) F.pins.2.1 (by omega) (by omega) (fun r hr => Nat.le_trans (hsm' r hr) (by decide)) (fun r hr => by obtain ⟨q, hq, rfl⟩ := List.mem_map.mp hr; exact cl_str (T'.ok q hq)) fun a2 s₆ ha2 _ G₆ => ?_⟩
    have hmr : (L'.map str).map mrow = (L'.map more).map str := by
      rw [List.map_map, List.map_map]
      exact List.map_congr_left fun r hr => mrow_str (T'.ok r hr)
    rw [hmr] at ha2
    have F := F.gws G₆
    have oa2 : offE env a2 := Strs.off ha2 F
    have F := F.weak (R := TR a2 b' c ((L'.map more).map str) ws) (stb_tr oa2 ob' oc) fun x => ⟨ha2, hS'.gw G₆, x.2.2.2⟩
    ((with_reducible refine storeV (by assumption) ?_ (by kernel_rfl)); intro _ _; (with_reducible refine e_nil ?_; refine e_cons ?_; refine e_assign ?_ (by kernel_rfl); refine v_bin ?_); (with_reducible refine lkp_name (v := ?v200) (by assumption) ?h200 ?_ (by kernel_rfl)); (case h200 => repeat (first | with_reducible exact lkp_here _ _ _ | with_reducible assumption | refine lkp_there (by kernel_rfl) ?_)); (with_reducible refine r_int (by assumption) ?_); intro _ _ _; (with_reducible refine o_add (by assumption) ?_); intro _ _ _; (with_reducible refine storeV (by assumption) ?_ (by kernel_rfl)); intro _ _; (with_reducible refine e_nil ?_))
    refine cur (by assumption) ?_; intro F
    exact h _ _ (by omega) ⟨L'.map more, a2, b', _, turn + 1, rfl, T2, oa2, ob', by ((repeat (first | (with_reducible exact lkp_here _ _ _) | (with_reducible assumption) | refine lkp_there (by kernel_rfl) ?_))), by ((repeat (first | (with_reducible exact lkp_here _ _ _) | (with_reducible assumption) | refine lkp_there (by kernel_rfl) ?_))), by ((repeat (first | (with_reducible exact lkp_here _ _ _) | (with_reducible assumption) | refine lkp_there (by kernel_rfl) ?_))), by ((repeat (first | (with_reducible exact lkp_here _ _ _) | (with_reducible assumption) | refine lkp_there (by kernel_rfl) ?_))), ⟨_, by rw [show ((turn + 1 : Nat) : Int) = (turn : Int) + 1 from rfl]; ((repeat (first | (with_reducible exact lkp_here _ _ _) | (with_reducible assumption) | refine lkp_there (by kernel_rfl) ?_)))⟩, F⟩
end
/-! ## the second loop; the table; the figures -/

section
variable {w : World} {A : Around} {E : Value → Shared → Prop} {s : Shared} {g : Shared} {env : Env} {l : List (Str × Value)} {P : Heap → Prop} {a b c sa : Addr} {ws : List (List Nat)} {W0 : List Nat} {ns : List Int}
theorem law_fill {n : Nat} {Q : Flow → Shared → Prop} (R : Rm A 6) (hW : W0.length ≤ 12) (ha : Ints sa ns g.heap) (hns : ns.length ≤ 63) (oc : offE env c) (U : UT w g env sa c ws W0 n s)
    (h : ∀ s' L a b l turn, Tabl W0 turn L → (∀ r ∈ L, r.1 = 0) → offE env a → offE env b → lkp l "rows" = some (.ref a) → lkp l "due" = some (.ref b) → lkp l "words" = some (.ref c) → lkp l "script" = some (.ref sa) →
      Fm w g true scL env s' l (TR a b c (L.map str) ws) → Q .next s') : wpAny (MM w) A (exec (lX 5) env) Q E s := by
  conv in lX 5 => whnf
  refine e_while (fun n s => UT w g env sa c ws W0 n s) n U ?_
  rintro n s E' ⟨L, a, b, l, turn, rfl, T, oa, ob, hr, hd, hwd, hsc, ⟨tt, ht⟩, F⟩
  have hxl : (L.map str).length = 4 := by rw [List.length_map]; exact T.len
  ((with_reducible refine t_bool ?_; refine t_and ?_; refine t_cmp ?_ (by kernel_rfl)); (with_reducible refine lkp_name (v := ?v201) (by assumption) ?h201 ?_ (by kernel_rfl)); (case h201 => repeat (first | with_reducible exact lkp_here _ _ _ | with_reducible assumption | refine lkp_there (by kernel_rfl) ?_)); (with_reducible refine lkp_name (v := ?v202) (by assumption) ?h202 ?_ (by kernel_rfl)); (case h202 => repeat (first | with_reducible exact lkp_here _ _ _ | with_reducible assumption | refine lkp_there (by kernel_rfl) ?_)))
  refine eq_strs R.u64 F.pins.1 F.pins.2.1 (sok_str T.ok) (sok_str T.ok) ?_
  ((with_reducible refine wpAny_truthy_bool ?_))
  refine and_t (decide_eq_true rfl) ?_
  ((with_reducible refine t_and ?_; refine t_cmp ?_ (by kernel_rfl); refine r_call ?_); (with_reducible refine name_glob (v := ?v203) (by assumption) ?h203 ?_ (by kernel_rfl)); (case h203 => exact gl_law_ready _))
  refine cw_fn (fn_ready _) ?_ (by kernel_rfl) (by kernel_rfl)
  ((with_reducible refine i_cons ?_ (by kernel_rfl)); (with_reducible refine lkp_name (v := ?v204) (by assumption) ?h204 ?_ (by kernel_rfl)); (case h204 => repeat (first | with_reducible exact lkp_here _ _ _ | with_reducible assumption | refine lkp_there (by kernel_rfl) ?_)); (with_reducible refine i_nil ?_))
  refine ⟨F.Wd, ready_spec F.Wd (R.less (by decide)) F.pins.1 (by omega) fun pl s₂ hpl G₂ => ?_⟩
  have F := F.gws G₂
  have F := F.pin (stb_ints _ (Ints.off hpl F)) hpl
  ((with_reducible refine r_list ?_; refine i_nil ?_))
  refine ⟨by simp [sizeLine], _, _, _, _, _, F, fun e s₃ _ _ F => ?_⟩
  have he : Ints e [] s₃.heap := ⟨[], F.pins.1, rfl⟩
  refine ne_ints R.u64 F.pins.2.1 he ?_
  ((with_reducible refine wpAny_truthy_bool ?_))
  by_cases hne : readyL (L.map str) = []
  · refine and_f (by simp [hne]) (wh_f rfl ?_)
    exact h _ L a b l turn T (ready_end T hne) oa ob hr hd hwd hsc (F.weak (stb_tr oa ob oc) fun x => x.2.2)
  · refine and_t (by simp [hne]) (and_nil (wh_t rfl ?_))
    exact p_fill R hW ha hns oc T hne oa ob hr hd hwd hsc ht (F.weak (stb_tr oa ob oc) fun x => x.2.2) fun n s' hlt U' => ⟨rfl, n, hlt, U'⟩
theorem ne_range (xs : List (List Nat)) : ((List.range xs.length).filter fun i => !decide (xs.getD i [] = [])).map (fun i => xs.getD i []) = ne xs := by
  have e : xs = (List.range xs.length).map fun i => xs.getD i [] := by
    apply List.ext_getElem (by simp)
    intro i h1 h2
    simp [List.getD_eq_getElem?_getD, h1]
  unfold ne
  conv => rhs; rw [e, List.filter_map]
  congr 1
  apply List.filter_congr
  intro i _
  show (!decide (xs.getD i [] = [])) = !(xs.getD i []).isEmpty
  generalize xs.getD i [] = y
  cases y <;> simp
theorem law_table {xs : List (List Nat)} {Q : Flow → Shared → Prop} (R : Rm A 6) (hx : xs.length = 4) (F : Fm w g true scL env s l (TR a b c xs ws)) (hr : lkp l "rows" = some (.ref a))
    (h : ∀ D s', offE env D → Fm w g true scL env s' (("table", .ref D) :: l) (fun h => Strs D (ne xs) h ∧ TR a b c xs ws h) → Q .next s') : wpAny (MM w) A (exec (lX 6) env) Q E s := by
  conv in lX 6 => whnf
  refine comp_ruleA [] [] F ?_ rfl (by kernel_rfl) (by intro _; rfl) (by kernel_rfl)
  ((with_reducible refine lkp_name (v := ?v) (by assumption) ?hv ?_ (by kernel_rfl); (case hv => ((repeat (first | (with_reducible exact lkp_here _ _ _) | (with_reducible assumption) | refine lkp_there (by kernel_rfl) ?_))))))
  refine ⟨_, _, xs.length, _, fun i => !decide (xs.getD i [] = []), fun i y => ∃ t, y = .str (tx (xs.getD i [])) t, F, .nil, iter_strs R.handled F.pins.1, by simp only [sizeLine]; omega, ?_, ?_⟩
  · intro cenv j x s₅ E' hj hx g₃ F₃
    obtain ⟨x, t, hx, rfl⟩ := hx
    refine tests_one ?_
    ((with_reducible refine t_cmp ?_ (by kernel_rfl)); (with_reducible refine lkp_name (v := ?v205) (by assumption) ?h205 ?_ (by kernel_rfl)); (case h205 => repeat (first | with_reducible exact lkp_here _ _ _ | with_reducible assumption | refine lkp_there (by kernel_rfl) ?_)); (with_reducible refine r_str (xs := ?x206) ?h206 (by assumption) ?_); (case h206 => exact sx0); intro _ _ _; (with_reducible refine ne_tx ?_; refine wpAny_truthy_bool ?_))
    have hxj : xs.getD j [] = x := by rw [List.getD_eq_getElem?_getD, hx]; rfl
    refine ⟨by show _ = !decide (xs.getD j [] = []); rw [hxj], by ((refine ⟨_, by assumption, ?_⟩; intro h; first | exact h | exact h.2 | exact h.2.2 | exact h.2.2.2 | exact h.2.2.2.2)), fun _ => ?_⟩
    ((with_reducible refine lkp_name (v := ?v207) (by assumption) ?h207 ?_ (by kernel_rfl)); (case h207 => repeat (first | with_reducible exact lkp_here _ _ _ | with_reducible assumption | refine lkp_there (by kernel_rfl) ?_)))
    refine ⟨⟨t, by rw [List.getD_eq_getElem?_getD, hx]; rfl⟩, by ((refine ⟨_, by assumption, ?_⟩; intro h; first | exact h | exact h.2 | exact h.2.2 | exact h.2.2.2 | exact h.2.2.2.2))⟩
  · intro D ys s' hD oD hp F'
    have hS := (F'.pins.1.strs hp).strs
    rw [ne_range] at hS
    exact h D s' oD (F'.weak (F.stb.and (stb_strs _ oD)) fun x => ⟨by have := (x.1.strs hp).strs; rwa [ne_range] at this, x.2⟩)
theorem law_figs {Q : Flow → Shared → Prop} (hl : ws.length = 4) (hw : ∀ x ∈ ws, WordOk x) (F : Fm w g true scL env s l P) (hwd : lkp l "words" = some (.ref c)) (hP : ∀ h, P h → Strs c ws h)
    (h : ∀ t s', Fm w g true scL env s' (("figures", .str (tx (ws.getD 3 [] ++ ws.getD 2 [] ++ ws.getD 1 [] ++ ws.getD 0 [])) t) :: l) P → Q .next s') : wpAny (MM w) A (exec (lX 7) env) Q E s := by
  conv in lX 7 => whnf
  have hm : ∀ j, j < 4 → (ws.getD j []).length ≤ 3 := fun j hj => (hw _ (List.mem_of_getElem? (getD_some (ws := ws) (i := j) (by omega)))).len
  have h0 := hm 0 (by decide)
  have h1 := hm 1 (by decide)
  have h2 := hm 2 (by decide)
  have h3 := hm 3 (by decide)
  ((with_reducible refine e_assign ?_ (by kernel_rfl); refine v_bin ?_; refine v_bin ?_; refine v_bin ?_; refine r_sub ?_); (with_reducible refine lkp_name (v := ?v208) (by assumption) ?h208 ?_ (by kernel_rfl)); (case h208 => repeat (first | with_reducible exact lkp_here _ _ _ | with_reducible assumption | refine lkp_there (by kernel_rfl) ?_)); (with_reducible refine r_int (by assumption) ?_); intro _ _ _)
  refine cur (by assumption) ?_; intro F
  refine sub_strs (k := 3) (m := ws.getD 3 []) (hP _ F.pins) rfl (by omega) (getD_some (by omega)) ?_; intro _
  ((with_reducible refine r_sub ?_); (with_reducible refine lkp_name (v := ?v209) (by assumption) ?h209 ?_ (by kernel_rfl)); (case h209 => repeat (first | with_reducible exact lkp_here _ _ _ | with_reducible assumption | refine lkp_there (by kernel_rfl) ?_)); (with_reducible refine r_int (by assumption) ?_); intro _ _ _)
  refine cur (by assumption) ?_; intro F
  refine sub_strs (k := 2) (m := ws.getD 2 []) (hP _ F.pins) rfl (by omega) (getD_some (by omega)) ?_; intro _
  skip
  refine o_addS (by assumption) (by simp only [sizeLine]; omega) ?_; intro _ _ _
  ((with_reducible refine r_sub ?_); (with_reducible refine lkp_name (v := ?v210) (by assumption) ?h210 ?_ (by kernel_rfl)); (case h210 => repeat (first | with_reducible exact lkp_here _ _ _ | with_reducible assumption | refine lkp_there (by kernel_rfl) ?_)); (with_reducible refine r_int (by assumption) ?_); intro _ _ _)
  refine cur (by assumption) ?_; intro F
  refine sub_strs (k := 1) (m := ws.getD 1 []) (hP _ F.pins) rfl (by omega) (getD_some (by omega)) ?_; intro _
  skip
  refine o_addS (by assumption) (by simp only [sizeLine, List.length_append]; omega) ?_; intro _ _ _
  ((with_reducible refine r_sub ?_); (with_reducible refine lkp_name (v := ?v211) (by assumption) ?h211 ?_ (by kernel_rfl)); (case h211 => repeat (first | with_reducible exact lkp_here _ _ _ | with_reducible assumption | refine lkp_there (by kernel_rfl) ?_)); (with_reducible refine r_int (by assumption) ?_); intro _ _ _)
  refine cur (by assumption) ?_; intro F
  refine sub_strs (k := 0) (m := ws.getD 0 []) (hP _ F.pins) rfl (by omega) (getD_some (by omega)) ?_; intro _
  skip
  refine o_addS (by assumption) (by simp only [sizeLine, List.length_append]; omega) ?_; intro _ _ _
  ((with_reducible refine storeV (by assumption) ?_ (by kernel_rfl)); intro _ _)
  exact h _ _ (by assumption)
end
/-! ## the table against the piles -/

section
variable {w : World} {A : Around} {E : Value → Shared → Prop} {s : Shared} {g : Shared} {env : Env} {l : List (Str × Value)} {P : Heap → Prop} {a b c D sa : Addr} {ws : List (List Nat)} {W0 : List Nat}
theorem IsTuple.gw {s s' : Shared} {T : Addr} {vs : Array Value} (x : s.heap.IsTuple T vs) (G : Gw s s') : s'.heap.IsTuple T vs := let ⟨o, e, c, r⟩ := x; ⟨o, G.keep _ _ e fun t => absurd t (notTb_of_cls (by rw [c]; exact fun e => nomatch e)), c, r⟩
theorem range_self (xs : List (List Nat)) : (List.range xs.length).map (fun i => xs.getD i []) = xs := by
  apply List.ext_getElem (by simp)
  intro i h1 h2
  simp [List.getD_eq_getElem?_getD, h2]
theorem law_check {xs T : List (List Nat)} {t : Tok} {Q : Flow → Shared → Prop} (R : Rm A 7) (hW : W0.length ≤ 12) (hx : SOk xs) (hT : SOk T) (hTW : insW [] W0 = T) (F : Fm w g true scL env s l (fun h => Strs D T h ∧ TR a b c xs ws h))
    (hr : lkp l "rows" = some (.ref a)) (hd : lkp l "due" = some (.ref b)) (ht : lkp l "table" = some (.ref D)) (hf : lkp l "figures" = some (.str (tx W0) t))
    (h : ∀ s', Fm w g true scL env s' l (fun h => Strs D T h ∧ TR a b c xs ws h) → Q .next s') : wpAny (MM w) A (exec (lX 8) env) Q E s := by
  conv in lX 8 => whnf
  have hTl : ∀ r ∈ T, r.length ≤ 12 := fun r hr => Nat.le_trans ((insW_len W0).1 r (hTW ▸ hr)) hW
  have hTn : T.length ≤ 12 := by have := (insW_len W0).2; rw [hTW] at this; omega
  ((with_reducible refine e_if ?_; refine t_bool ?_; refine t_or ?_; refine t_cmp ?_ (by kernel_rfl)); (with_reducible refine lkp_name (v := ?v212) (by assumption) ?h212 ?_ (by kernel_rfl)); (case h212 => repeat (first | with_reducible exact lkp_here _ _ _ | with_reducible assumption | refine lkp_there (by kernel_rfl) ?_)); (with_reducible refine lkp_name (v := ?v213) (by assumption) ?h213 ?_ (by kernel_rfl)); (case h213 => repeat (first | with_reducible exact lkp_here _ _ _ | with_reducible assumption | refine lkp_there (by kernel_rfl) ?_)))
  refine ne_strs R.u64 F.pins.2.1 F.pins.2.2.1 hx hx ?_
  ((with_reducible refine wpAny_truthy_bool ?_))
  refine or_f (by simp) ?_
  ((with_reducible refine t_or ?_; refine t_cmp ?_ (by kernel_rfl)); (with_reducible refine lkp_name (v := ?v214) (by assumption) ?h214 ?_ (by kernel_rfl)); (case h214 => repeat (first | with_reducible exact lkp_here _ _ _ | with_reducible assumption | refine lkp_there (by kernel_rfl) ?_)))
  refine comp_rule [] [] F ?_ rfl (by kernel_rfl) (by intro _; rfl)
  ((with_reducible refine r_call ?_); (with_reducible refine name_glob (v := ?v215) (by assumption) ?h215 ?_ (by kernel_rfl)); (case h215 => exact gl_law_piles _))
  refine cw_fn (fn_piles _) ?_ (by kernel_rfl) (by kernel_rfl)
  ((with_reducible refine i_cons ?_ (by kernel_rfl)); (with_reducible refine lkp_name (v := ?v216) (by assumption) ?h216 ?_ (by kernel_rfl)); (case h216 => repeat (first | with_reducible exact lkp_here _ _ _ | with_reducible assumption | refine lkp_there (by kernel_rfl) ?_)); (with_reducible refine i_nil ?_))
  refine ⟨F.Wd, piles_spec F.Wd R (by omega) fun Lp qs s₂ G hLN hPA hq => ?_⟩
  rw [hTW] at hPA hq
  have F := F.gws G
  refine ⟨_, _, T.length, fun i v => (qs.map fun q => Value.ref q.1)[i]? = some v, fun _ => true, fun i y => ∃ t, y = .str (tx (T.getD i [])) t, F, .nil, ?_, by simp only [sizeLine]; omega, ?_, ?_⟩
  · have := iter_ls (w := w) R.handled hLN.ls
    rw [List.length_map, hq] at this
    exact this
  · intro cenv i v s₃ E' hi hv g₃ F₃
    rw [List.getElem?_map] at hv
    obtain ⟨q, hqi, rfl⟩ := Option.map_eq_some_iff.mp hv
    have hTi : T[i]? = some (T.getD i []) := by rw [List.getD_eq_getElem?_getD, List.getElem?_eq_getElem hi]; rfl
    obtain ⟨_, _, ps, hac, hps, htp⟩ := hPA i q _ hqi hTi
    refine tests_nil ⟨rfl, by ((refine ⟨_, by assumption, ?_⟩; intro h; first | exact h | exact h.2 | exact h.2.2 | exact h.2.2.2 | exact h.2.2.2.2)), fun _ => ?_⟩
    ((with_reducible refine r_call ?_); (with_reducible refine name_boot (v := ?v217) (by assumption) ?h217 ?_ (by kernel_rfl) (by kernel_rfl)); (case h217 => exact bt_str); (with_reducible refine cw_type ?_ (by kernel_rfl) (by kernel_rfl); refine i_cons ?_ (by kernel_rfl)); (with_reducible refine lkp_name (v := ?v218) (by assumption) ?h218 ?_ (by kernel_rfl)); (case h218 => repeat (first | with_reducible exact lkp_here _ _ _ | with_reducible assumption | refine lkp_there (by kernel_rfl) ?_)); (with_reducible refine i_nil ?_))
    refine str_spec (ds := T.getD i []) F₃.Wd (R.less (by decide)) (hac.gw g₃) ⟨ps, rfl, hps, fun p hp => IsTuple.gw (htp p hp).2 g₃⟩ (Nat.le_trans (hTl _ (List.mem_of_getElem? hTi)) (by decide)) fun t s₄ G₄ => ?_
    exact ⟨⟨t, rfl⟩, ⟨_, F₃.gws G₄, fun h => h⟩⟩
  · intro D2 ys s' hD2 hp F'
    rw [filt_true] at hp
    have hS := F'.pins.1.strs hp
    rw [range_self] at hS
    refine ne_strs R.u64 F'.pins.2.1 hS hT hT ?_
    ((with_reducible refine wpAny_truthy_bool ?_))
    refine or_f (by simp) ?_
    ((with_reducible refine or_nil ?_))
    refine if_f rfl ?_
    ((with_reducible refine e_nil ?_))
    exact h s' (F'.weak F.stb fun x => x.2)
end
/-! ## the falling choices -/

theorem falls_fst (w : List Nat) : (falls w).map (·.1) = w := by
  have key : ∀ (w : List Nat) (d : List (Nat × Nat)), (w.foldl fallStep d).map (·.1) = d.map (·.1) ++ w := by
    intro w
    induction w with
    | nil => intro d; simp
    | cons x w ih => intro d; rw [List.foldl_cons, ih]; simp [fallStep]
  simpa [falls] using key w []
noncomputable def flN (w : List Nat) : List Nat := (falls w).map (·.2)
theorem flN_len (w : List Nat) : (flN w).length = w.length := by
  have := congrArg List.length (falls_fst w)
  simpa [flN] using this
noncomputable def flZ (w : List Nat) (k : Nat) : List Nat := ((List.range k).filter fun j => decide (w.getD k 0 < w.getD j 0)).map fun j => (flN (w.take k)).getD j 0
theorem flN_succ {w : List Nat} {k : Nat} (hk : k < w.length) : flN (w.take (k + 1)) = flN (w.take k) ++ [1 + maxl (flZ w k)] := by
  have e1 : w.take (k + 1) = w.take k ++ [w.getD k 0] := by rw [List.take_add_one, List.getD_eq_getElem?_getD, List.getElem?_eq_getElem hk]; rfl
  have e2 : falls (w.take (k + 1)) = fallStep (falls (w.take k)) (w.getD k 0) := by rw [e1]; simp [falls]
  unfold flN
  rw [e2]
  have hl : (falls (w.take k)).length = k := by
    have := congrArg List.length (falls_fst (w.take k))
    rw [List.length_map, List.length_take] at this; omega
  have e3 : falls (w.take k) = (List.range k).map fun j => (w.getD j 0, (flN (w.take k)).getD j 0) := by
    apply List.ext_getElem (by simp [hl])
    intro i h1 h2
    have hi : i < k := by rw [hl] at h1; exact h1
    have f1 : ((falls (w.take k)).map (·.1))[i]? = (w.take k)[i]? := by rw [falls_fst]
    rw [List.getElem?_map, List.getElem?_eq_getElem h1, List.getElem?_take_of_lt hi, List.getElem?_eq_getElem (by omega)] at f1
    have f2 : (falls (w.take k))[i].1 = w[i] := by simpa using f1
    have f3 : (flN (w.take k)).getD i 0 = (falls (w.take k))[i].2 := by
      unfold flN
      rw [List.getD_eq_getElem?_getD, List.getElem?_map, List.getElem?_eq_getElem h1]; rfl
    rw [List.getElem_map, List.getElem_range, f3]
    refine Prod.ext ?_ rfl
    rw [f2, List.getD_eq_getElem?_getD, List.getElem?_eq_getElem (by omega)]; rfl
  have e4 : ((falls (w.take k)).filter fun p => decide (w.getD k 0 < p.1)).map (·.2) = flZ w k := by
    unfold flZ
    rw [e3, List.filter_map, List.map_map]; rfl
  show (falls (w.take k) ++ [(w.getD k 0, 1 + maxl (((falls (w.take k)).filter fun p => decide (w.getD k 0 < p.1)).map (·.2)))]).map (·.2) = _
  rw [e4, List.map_append]; rfl
noncomputable def castI (l : List Nat) : List Int := l.map fun (n : Nat) => (n : Int)
theorem max_is {Z : List Nat} {M : Int} (h1 : M ∈ (0 : Int) :: castI Z) (h2 : ∀ b ∈ (0 : Int) :: castI Z, b ≤ M) : M = (maxl Z : Nat) := by
  obtain ⟨n, rfl, hn⟩ : ∃ n : Nat, M = n ∧ (n = 0 ∨ n ∈ Z) := by
    rcases List.mem_cons.mp h1 with rfl | h
    · exact ⟨0, rfl, .inl rfl⟩
    · obtain ⟨n, hn, rfl⟩ := List.mem_map.mp h; exact ⟨n, rfl, .inr hn⟩
  have a1 : maxl Z ≤ n := maxl_le_iff.mpr fun a ha => by
    have := h2 (a : Int) (List.mem_cons_of_mem _ (List.mem_map.mpr ⟨a, ha, rfl⟩)); omega
  have a2 : n ≤ maxl Z := by
    rcases hn with rfl | hn
    · omega
    · exact maxl_le_iff.mp (Nat.le_refl _) n hn
  have : n = maxl Z := by omega
  rw [this]
/-- a list of ints without a dict of its own -/
noncomputable def IN (a : Addr) (ns : List Int) (h : Heap) : Prop := ∃ ts : List (Int × Tok), LN a (intV ts) h ∧ ts.map (·.1) = ns
theorem IN.ints {a : Addr} {ns : List Int} {h : Heap} (x : IN a ns h) : Ints a ns h := let ⟨ts, e, r⟩ := x; ⟨ts, e.ls, r⟩
theorem IN.at {a : Addr} {ns : List Int} {h h' : Heap} (x : IN a ns h) (k : ∀ o, h.get? a = some o → (Tb o → a ≠ 103) → h'.get? a = some o) : IN a ns h' := let ⟨ts, e, r⟩ := x; ⟨ts, e.at k, r⟩
theorem stb_in {env : Env} {a : Addr} {ns : List Int} (h : offE env a) : Stb env (IN a ns) := fun _ _ k x => x.at fun o e t => k a o h e t
section
variable {w : World} {A : Around} {E : Value → Shared → Prop} {s : Shared} {g : Shared} {env : Env} {l : List (Str × Value)} {P : Heap → Prop} {D f sa : Addr} {T : List (List Nat)} {W0 : List Nat}
noncomputable def FX (f D : Addr) (ns : List Int) (T : List (List Nat)) (h : Heap) : Prop := IN f ns h ∧ Strs D T h
noncomputable def FJx (g : Shared) (env : Env) (sa f D : Addr) (T : List (List Nat)) (W0 : List Nat) (I : Addr) (i : Nat) (l : List (Str × Value)) (P : Heap → Prop) : Prop :=
  f ≠ I ∧ D ≠ I ∧ lkp l "falling" = some (.ref f) ∧ (∃ t, lkp l "figures" = some (.str (tx W0) t)) ∧ lkp l "table" = some (.ref D) ∧ lkp l "script" = some (.ref sa) ∧ P = FX f D (castI (flN (W0.take i))) T
theorem getN {l : List Nat} {j : Nat} (h : j < l.length) : (castI l)[j]? = some ((l.getD j 0 : Nat) : Int) := by
  unfold castI
  rw [List.getElem?_map, List.getD_eq_getElem?_getD, List.getElem?_eq_getElem h]; rfl
theorem law_fall {Q : Flow → Shared → Prop} (R : Rm A 6) (hW : W0.length ≤ 12) (F : Fm w g true scL env s l (FX f D [] T)) (gf : g.heap.objs.size ≤ f) (of : offE env f) (oD : offE env D) (fD : f ≠ D)
    (hf : lkp l "falling" = some (.ref f)) {t : Tok} (hfg : lkp l "figures" = some (.str (tx W0) t)) (ht : lkp l "table" = some (.ref D)) (hsc : lkp l "script" = some (.ref sa))
    (h : ∀ s' l, lkp l "falling" = some (.ref f) → lkp l "table" = some (.ref D) → lkp l "script" = some (.ref sa) → Fm w g true scL env s' l (FX f D (castI (flN W0)) T) → Q .next s') : wpAny (MM w) A (exec (lX 10) env) Q E s := by
  conv in lX 10 => whnf
  refine for_rg (g := g) (sc := scL) (n := W0.length) (FJx g env sa f D T W0) R.handled (by omega) ?_ ?_ (by kernel_rfl) ?_ ?_ (by intro _; rfl)
  · ((with_reducible refine r_call ?_); (with_reducible refine name_boot (v := ?v219) (by assumption) ?h219 ?_ (by kernel_rfl) (by kernel_rfl)); (case h219 => exact bt_range); (with_reducible refine cw_type ?_ (by kernel_rfl) (by kernel_rfl); refine i_cons ?_ (by kernel_rfl); refine r_call ?_); (with_reducible refine name_boot (v := ?v220) (by assumption) ?h220 ?_ (by kernel_rfl) (by kernel_rfl)); (case h220 => exact bt_len); (with_reducible refine cw_builtin ?_ (by kernel_rfl) (by kernel_rfl); refine i_cons ?_ (by kernel_rfl)); (with_reducible refine lkp_name (v := ?v221) (by assumption) ?h221 ?_ (by kernel_rfl)); (case h221 => repeat (first | with_reducible exact lkp_here _ _ _ | with_reducible assumption | refine lkp_there (by kernel_rfl) ?_)); (with_reducible refine i_nil ?_))
    refine cur (by assumption) ?_; intro F₁
    refine len_tx F₁ (by omega) ?_; intro _ _ F₁
    ((with_reducible refine i_nil ?_))
    refine range_1 (by assumption) fun r s₁ F₂ => ?_
    have lf := F₂.pins.2.1.ints.lt
    have lD := F₂.pins.2.2.lt
    exact ⟨r, l, _, rfl, F₂.pins.1, F₂.weak ((stb_strs _ oD).and (stb_in of)) fun x => x.2, fun I hI => ⟨Nat.ne_of_lt (Nat.lt_of_lt_of_le lf hI), Nat.ne_of_lt (Nat.lt_of_lt_of_le lD hI), hf, ⟨t, hfg⟩, ht, hsc, rfl⟩⟩
  · rintro I i l P ⟨fI, DI, _, _, _, _, rfl⟩
    exact ⟨(stb_strs _ oD).and (stb_in of), fun h h' k x => ⟨x.1.at fun o e _ => k f o fI e, x.2.kp fun o e => k D o DI e⟩⟩
  · rintro I S i s l P t E' hi ⟨fI, DI, hf, ⟨tf, hfg⟩, ht, hsc, rfl⟩ hS hSI hIS F
    have hk := lkp_here "k" (Value.int (i : Nat) t) l
    have hfl : (flN (W0.take i)).length = i := by rw [flN_len, List.length_take]; omega
    have hcl : (castI (flN (W0.take i))).length = i := by simp [castI, hfl]
    refine e_cons (e_expr F ?_ (by kernel_rfl) (by rfl))
    refine r_meth (pl := ?pl) ?_ ?he
    case he => exact rfl
    refine lkp_name F (lkp_there (by kernel_rfl) hf) ?_ (by kernel_rfl)
    obtain ⟨ts, hln, hts⟩ := F.pins.2.1
    refine gm_append hln ?_
    clear hln
    refine cw_builtin (i_cons ?_ (by kernel_rfl)) (by kernel_rfl) (by kernel_rfl)
    ((with_reducible refine v_bin ?_); (with_reducible refine r_int (by assumption) ?_); intro _ _ _; (with_reducible refine r_call ?_); (with_reducible refine name_boot (v := ?v222) (by assumption) ?h222 ?_ (by kernel_rfl) (by kernel_rfl)); (case h222 => exact bt_max); (with_reducible refine cw_builtin ?_ (by kernel_rfl) (by kernel_rfl); refine i_cons ?_ (by kernel_rfl); refine v_bin ?_; refine r_list ?_; refine i_cons ?_ (by kernel_rfl)); (with_reducible refine r_int (by assumption) ?_); intro _ _ _; (with_reducible refine i_nil ?_))
    refine ⟨by simp [sizeLine], _, _, _, _, _, by assumption, fun z s₁ _ oz F => ?_⟩
    skip
    refine comp_rule [("falling", .ref f), ("figures", .str (tx W0) tf), ("k", .int (i : Nat) t)] ["falling", "figures", "k"] F ?_ rfl (by kernel_rfl) (by intro _; rfl)
    ((with_reducible refine r_call ?_); (with_reducible refine name_boot (v := ?v223) (by assumption) ?h223 ?_ (by kernel_rfl) (by kernel_rfl)); (case h223 => exact bt_range); (with_reducible refine cw_type ?_ (by kernel_rfl) (by kernel_rfl); refine i_cons ?_ (by kernel_rfl)); (with_reducible refine lkp_name (v := ?v224) (by assumption) ?h224 ?_ (by kernel_rfl)); (case h224 => repeat (first | with_reducible exact lkp_here _ _ _ | with_reducible assumption | refine lkp_there (by kernel_rfl) ?_)); (with_reducible refine i_nil ?_))
    refine cur (by assumption) ?_; intro F
    refine range_1 F fun r s₂ F => ?_
    have hIf := F.pins.2.2.2.1.ints
    refine ⟨_, _, i - 0, _, fun j => decide (W0.getD i 0 < W0.getD j 0), fun j y => ∃ t, y = .int ((flN (W0.take i)).getD j 0 : Nat) t, F, by (repeat (first | (with_reducible exact Subs.nil) | (refine Subs.cons ?hk ?_; (case hk => ((repeat (first | (with_reducible exact lkp_here _ _ _) | (with_reducible assumption) | refine lkp_there (by kernel_rfl) ?_))))))), iter_rg (a := 0) R.handled F.pins.1 (by decide) (by omega), by simp only [sizeLine]; omega, ?_, ?_⟩
    · intro cenv j v s₃ E' hj hv g₃ F₃
      obtain ⟨tk, rfl⟩ := hv
      rw [Nat.zero_add] at *
      have gW : ∀ k, k < W0.length → W0[k]? = some (W0.getD k 0) := fun k hk => by rw [List.getD_eq_getElem?_getD, List.getElem?_eq_getElem hk]; rfl
      refine tests_one ?_
      ((with_reducible refine t_cmp ?_ (by kernel_rfl); refine r_sub ?_); (with_reducible refine lkp_name (v := ?v225) (by assumption) ?h225 ?_ (by kernel_rfl)); (case h225 => repeat (first | with_reducible exact lkp_here _ _ _ | with_reducible assumption | refine lkp_there (by kernel_rfl) ?_)); (with_reducible refine lkp_name (v := ?v226) (by assumption) ?h226 ?_ (by kernel_rfl)); (case h226 => repeat (first | with_reducible exact lkp_here _ _ _ | with_reducible assumption | refine lkp_there (by kernel_rfl) ?_)))
      refine sub_str (item_tx (k := j) (c := W0.getD j 0) (by assumption) rfl (by omega) (gW j (by omega)) ?_); intro _ _ _
      ((with_reducible refine r_sub ?_); (with_reducible refine lkp_name (v := ?v227) (by assumption) ?h227 ?_ (by kernel_rfl)); (case h227 => repeat (first | with_reducible exact lkp_here _ _ _ | with_reducible assumption | refine lkp_there (by kernel_rfl) ?_)); (with_reducible refine lkp_name (v := ?v228) (by assumption) ?h228 ?_ (by kernel_rfl)); (case h228 => repeat (first | with_reducible exact lkp_here _ _ _ | with_reducible assumption | refine lkp_there (by kernel_rfl) ?_)))
      refine sub_str (item_tx (k := i) (c := W0.getD i 0) (by assumption) rfl (by omega) (gW i hi) ?_); intro _ _ _
      ((with_reducible refine gt_one ?_; refine wpAny_truthy_bool ?_))
      refine ⟨rfl, by ((refine ⟨_, by assumption, ?_⟩; intro h; first | exact h | exact h.2 | exact h.2.2 | exact h.2.2.2 | exact h.2.2.2.2)), fun _ => ?_⟩
      ((with_reducible refine r_sub ?_); (with_reducible refine lkp_name (v := ?v229) (by assumption) ?h229 ?_ (by kernel_rfl)); (case h229 => repeat (first | with_reducible exact lkp_here _ _ _ | with_reducible assumption | refine lkp_there (by kernel_rfl) ?_)); (with_reducible refine lkp_name (v := ?v230) (by assumption) ?h230 ?_ (by kernel_rfl)); (case h230 => repeat (first | with_reducible exact lkp_here _ _ _ | with_reducible assumption | refine lkp_there (by kernel_rfl) ?_)))
      refine sub_ints (k := j) (hIf.gw (Fm.gw (by assumption))) rfl (by omega) (getN (by omega)) ?_; intro t₉
      refine ⟨⟨t₉, rfl⟩, by ((refine ⟨_, by assumption, ?_⟩; intro h; first | exact h | exact h.2 | exact h.2.2 | exact h.2.2.2 | exact h.2.2.2.2))⟩
    · intro Dl ys s' hDl hp F
      rw [Nat.sub_zero] at hp
      obtain ⟨us, rfl, hus⟩ := paired_ints (f := fun j => (((flN (W0.take i)).getD j 0 : Nat) : Int)) hp
      have hus' : us.map (·.1) = castI (flZ W0 i) := by rw [hus]; simp [castI, flZ, List.map_map, Function.comp_def]
      have hlu : us.length ≤ 12 := by
        have := congrArg List.length hus
        have h2 := List.length_filter_le (fun j => decide (W0.getD i 0 < W0.getD j 0)) (List.range i)
        simp at this h2; omega
      skip
      refine add_ls F F.pins.2.2.1 F.pins.1 (by simp [sizeLine, intV]; omega) ?_
      intro Lm s₄ _ _ F
      have hIm : Ints Lm ((0 : Int) :: castI (flZ W0 i)) s₄.heap := ⟨(0, _) :: us, by simpa [intV] using F.pins.1, by simp [hus']⟩
      ((with_reducible refine i_nil ?_))
      refine c_max F R.handled hIm (by simp) ?_
      intro M tM s₅ hM1 hM2 F
      obtain rfl := max_is hM1 hM2
      ((with_reducible refine o_add (by assumption) ?_); intro _ _ _; (with_reducible refine i_nil ?_))
      refine cur (by assumption) ?_; intro F
      obtain ⟨ts', hln, hts'⟩ := F.pins.2.2.2.2.2.1
      have hsucc := flN_succ hi
      refine append_ln (P' := fun h => S h ∧ FX f D (castI (flN (W0.take (i + 1)))) T h) F gf of hln (by have := congrArg List.length hts'; simp [castI, hfl] at this; simp [intV]; omega) (((stb_strs _ oD).and (stb_in of)).and hS)
        (fun h' hs hl => ⟨hSI _ _ (fun ob e => hs.extBut _ _ (Ne.symm fI) e) F.pins.2.2.2.2.1, ⟨ts' ++ [(((1 : Int) + ((maxl (flZ W0 i) : Nat) : Int)), _)], by simpa [intV] using hl, by rw [hsucc, List.map_append, hts']; simp [castI]⟩, F.pins.2.2.2.2.2.2.kp fun o e => hs.extBut _ _ (Ne.symm fD) e⟩) fun s' F' => ?_
      exact e_nil ⟨rfl, _, _, ⟨fI, DI, lkp_there (by kernel_rfl) hf, ⟨tf, lkp_there (by kernel_rfl) hfg⟩, lkp_there (by kernel_rfl) ht, lkp_there (by kernel_rfl) hsc, rfl⟩, F'⟩
  · rintro I s l P ⟨fI, DI, hf, _, ht, hsc, rfl⟩ F
    rw [List.take_length] at F
    exact h s l hf ht hsc F
end
/-! ## the reply -/

structure TT (T : List (List Nat)) : Prop where
  len : T.length ≤ 4
  ok : ∀ r ∈ T, r ≠ [] ∧ r.length ≤ 12 ∧ ∀ c ∈ r, 49 ≤ c ∧ c ≤ 53
noncomputable def bodyM (m : Nat) (T : List (List Nat)) : List Nat := (T.map (· ++ [m])).flatten
noncomputable def repX (d m : Nat) (tl : List Nat) : List Nat := 50 :: 50 :: d :: 32 :: 40 :: (m :: tl ++ [41])
noncomputable def M3 (m : Nat) : Prop := m = 124 ∨ m = 33 ∨ m = 59
theorem body_len {m : Nat} : ∀ {T : List (List Nat)}, (∀ r ∈ T, r.length ≤ 12) → (bodyM m T).length ≤ 13 * T.length
  | [], _ => Nat.le_refl _
  | r :: T, h => by
    have ih := body_len (m := m) (T := T) fun q hq => h q (List.mem_cons_of_mem _ hq)
    have := h r (List.mem_cons_self ..)
    have e : bodyM m (r :: T) = r ++ [m] ++ bodyM m T := by simp [bodyM]
    rw [e]; simp; omega
theorem body_mem {m : Nat} {T : List (List Nat)} {c : Nat} (h : c ∈ bodyM m T) : c = m ∨ ∃ r ∈ T, c ∈ r := by
  obtain ⟨y, hy, hc⟩ := List.mem_flatten.mp h
  obtain ⟨r, hr, rfl⟩ := List.mem_map.mp hy
  rcases List.mem_append.mp hc with hc | hc
  · exact .inr ⟨r, hr, hc⟩
  · exact .inl (List.mem_singleton.mp hc)
theorem last_m (m : Nat) : ∀ (T : List (List Nat)), (m :: bodyM m T)[(bodyM m T).length]? = some m := by
  intro T
  rcases List.eq_nil_or_concat T with rfl | ⟨T', r, rfl⟩
  · rfl
  · have e : bodyM m (T' ++ [r]) = bodyM m T' ++ r ++ [m] := by simp [bodyM]
    rw [List.concat_eq_append, e]
    rw [show m :: (bodyM m T' ++ r ++ [m]) = (m :: (bodyM m T' ++ r)) ++ [m] from rfl, List.getElem?_append_right (by simp; omega)]
    rw [show (bodyM m T' ++ r ++ [m]).length - (m :: (bodyM m T' ++ r)).length = 0 by simp; omega]; rfl
theorem kind_m {m : Nat} (h : M3 m) : Builtin.Str.strKind (tx [m]) = 1 := by rcases h with rfl | rfl | rfl <;> decide +kernel
theorem TT.reply {T : List (List Nat)} {m d : Nat} (X : TT T) (hm : M3 m) (hd : d = 56 ∨ d = 57) : Reply (repX d m (bodyM m T)) (bodyM m T) T d m m where
  hx := rfl
  hd := hd
  h41 := fun h => by
    rcases List.mem_cons.mp h with h | h
    · rcases hm with rfl | rfl | rfl <;> cases h
    · rcases body_mem h with h | ⟨r, hr, hc⟩
      · rcases hm with rfl | rfl | rfl <;> cases h
      · have := ((X.ok r hr).2.2 41 hc).1; omega
  len := by
    have h1 := body_len (m := m) fun r hr => (X.ok r hr).2.1
    have h2 := X.len
    simp [repX]; omega
  hq := last_m m T
  hk := kind_m hm
  sp := fun _ => ⟨rfl, fun r hr h => by have := (X.ok r hr).2.2 m h; rcases hm with rfl | rfl | rfl <;> omega, Nat.le_trans X.len (by decide), fun r hr => ⟨(X.ok r hr).1, Nat.le_trans (X.ok r hr).2.1 (by decide), fun c hc => by have := (X.ok r hr).2.2 c hc; omega⟩⟩
theorem TT.nought {T : List (List Nat)} {m : Nat} (X : TT T) (hm : M3 m) : Reply (repX 57 m (bodyM m T ++ [48])) (bodyM m T ++ [48]) [] 57 m 48 where
  hx := rfl
  hd := .inr rfl
  h41 := fun h => by
    rcases List.mem_cons.mp h with h | h
    · rcases hm with rfl | rfl | rfl <;> cases h
    · rcases List.mem_append.mp h with h | h
      · rcases body_mem h with h | ⟨r, hr, hc⟩
        · rcases hm with rfl | rfl | rfl <;> cases h
        · have := ((X.ok r hr).2.2 41 hc).1; omega
      · simp at h
  len := by
    have h1 := body_len (m := m) fun r hr => (X.ok r hr).2.1
    have h2 := X.len
    simp [repX]; omega
  hq := by
    rw [show m :: (bodyM m T ++ [48]) = (m :: bodyM m T) ++ [48] from rfl, List.getElem?_append_right (by simp)]; simp
  hk := kind_m hm
  sp := fun e => by rcases hm with rfl | rfl | rfl <;> cases e
section
variable {w : World} {A : Around} {E : Value → Shared → Prop} {s : Shared} {g : Shared} {env : Env} {l : List (Str × Value)} {P : Heap → Prop} {D f sa : Addr} {T : List (List Nat)} {W0 : List Nat} {ns : List Int}
theorem law_mark {Q : Flow → Shared → Prop} (R : Rm A 6) (ha : Ints sa ns g.heap) (F : Fm w g true scL env s l P) (hsc : lkp l "script" = some (.ref sa))
    (h : ∀ m t s', M3 m → Fm w g true scL env s' (("mark", .str (tx [m]) t) :: l) P → Q .next s') : wpAny (MM w) A (exec (lX 11) env) Q E s := by
  conv in lX 11 => whnf
  ((with_reducible refine e_assign ?_ (by kernel_rfl); refine r_sub ?_); (with_reducible refine r_str (xs := ?x231) ?h231 (by assumption) ?_); (case h231 => exact sx13); intro _ _ _; (with_reducible refine v_bin ?_; refine r_call ?_); (with_reducible refine name_boot (v := ?v232) (by assumption) ?h232 ?_ (by kernel_rfl) (by kernel_rfl)); (case h232 => exact bt_sum); (with_reducible refine cw_builtin ?_ (by kernel_rfl) (by kernel_rfl); refine i_cons ?_ (by kernel_rfl)); (with_reducible refine lkp_name (v := ?v233) (by assumption) ?h233 ?_ (by kernel_rfl)); (case h233 => repeat (first | with_reducible exact lkp_here _ _ _ | with_reducible assumption | refine lkp_there (by kernel_rfl) ?_)); (with_reducible refine i_nil ?_))
  refine cur (by assumption) ?_; intro F
  refine c_sum F R.handled (ha.gw F.gw) ?_; intro j _ _ F
  ((with_reducible refine r_int (by assumption) ?_); intro _ _ _; (with_reducible refine o_modI (by assumption) ?_ (by decide)); intro _ _ _)
  obtain ⟨k, m, hk, hk3, hkm, hm⟩ : ∃ (k : Nat) (m : Nat), j % 3 = k ∧ k < 3 ∧ ([124, 33, 59] : List Nat)[k]? = some m ∧ M3 m := by
    rcases (show j % 3 = 0 ∨ j % 3 = 1 ∨ j % 3 = 2 by omega) with e | e | e
    · exact ⟨0, 124, e, by decide, rfl, .inl rfl⟩
    · exact ⟨1, 33, e, by decide, rfl, .inr (.inl rfl)⟩
    · exact ⟨2, 59, e, by decide, rfl, .inr (.inr rfl)⟩
  refine sub_str (item_tx (k := k) (c := m) (by assumption) hk (by omega) hkm ?_); intro _ _ _
  ((with_reducible refine storeV (by assumption) ?_ (by kernel_rfl)); intro _ _)
  exact h m _ _ hm (by assumption)
theorem law_reply {m : Nat} {t : Tok} {Q : Flow → Shared → Prop} (R : Rm A 6) (X : TT T) (hm : M3 m) (F : Fm w g true scL env s l P) (hP : ∀ h, P h → Strs D T h) (ht : lkp l "table" = some (.ref D)) (hmk : lkp l "mark" = some (.str (tx [m]) t))
    (h : ∀ t s', Fm w g true scL env s' (("reply", .str (tx (repX 57 m (bodyM m T))) t) :: l) P → Q .next s') : wpAny (MM w) A (exec (lX 12) env) Q E s := by
  conv in lX 12 => whnf
  have hbl := body_len (m := m) fun r hr => (X.ok r hr).2.1
  have hTl := X.len
  ((with_reducible refine e_assign ?_ (by kernel_rfl); refine v_bin ?_; refine v_bin ?_; refine v_bin ?_); (with_reducible refine r_str (xs := ?x234) ?h234 (by assumption) ?_); (case h234 => exact sx12); intro _ _ _; (with_reducible refine lkp_name (v := ?v235) (by assumption) ?h235 ?_ (by kernel_rfl)); (case h235 => repeat (first | with_reducible exact lkp_here _ _ _ | with_reducible assumption | refine lkp_there (by kernel_rfl) ?_)))
  refine o_addS (by assumption) (by simp [sizeLine]) ?_; intro _ _ _
  ((with_reducible refine r_meth (pl := ?p236) ?_ ?e236); (case e236 => exact rfl); (with_reducible refine r_str (xs := ?x237) ?h237 (by assumption) ?_); (case h237 => exact sx0); intro _ _ _; (with_reducible refine GM.join ?_; refine cw_builtin ?_ (by kernel_rfl) (by kernel_rfl); refine i_cons ?_ (by kernel_rfl)))
  refine cur (by assumption) ?_; intro F
  refine comp_rule [("mark", .str (tx [m]) t)] ["mark"] F ?_ rfl (by kernel_rfl) (by intro _; rfl)
  ((with_reducible refine lkp_name (v := ?v) (by assumption) ?hv ?_ (by kernel_rfl); (case hv => ((repeat (first | (with_reducible exact lkp_here _ _ _) | (with_reducible assumption) | refine lkp_there (by kernel_rfl) ?_))))))
  refine ⟨_, _, T.length, _, fun _ => true, fun i y => ∃ t, y = .str (tx (T.getD i [] ++ [m])) t, F, .cons hmk .nil, iter_strs R.handled (hP _ F.pins), by simp only [sizeLine]; omega, ?_, ?_⟩
  · intro cenv j x s₅ E' hj hx g₃ F₃
    obtain ⟨x, t, hx, rfl⟩ := hx
    have hxl := (X.ok x (List.mem_of_getElem? hx)).2.1
    refine tests_nil ⟨rfl, by ((refine ⟨_, by assumption, ?_⟩; intro h; first | exact h | exact h.2 | exact h.2.2 | exact h.2.2.2 | exact h.2.2.2.2)), fun _ => ?_⟩
    ((with_reducible refine v_bin ?_); (with_reducible refine lkp_name (v := ?v238) (by assumption) ?h238 ?_ (by kernel_rfl)); (case h238 => repeat (first | with_reducible exact lkp_here _ _ _ | with_reducible assumption | refine lkp_there (by kernel_rfl) ?_)); (with_reducible refine lkp_name (v := ?v239) (by assumption) ?h239 ?_ (by kernel_rfl)); (case h239 => repeat (first | with_reducible exact lkp_here _ _ _ | with_reducible assumption | refine lkp_there (by kernel_rfl) ?_)))
    refine o_addS (by assumption) (by simp [sizeLine]; omega) ?_; intro _ _ _
    refine ⟨⟨_, by rw [List.getD_eq_getElem?_getD, hx]; rfl⟩, by ((refine ⟨_, by assumption, ?_⟩; intro h; first | exact h | exact h.2 | exact h.2.2 | exact h.2.2.2 | exact h.2.2.2.2))⟩
  · intro D2 ys s' hD2 hp F'
    rw [filt_true] at hp
    have hS := F'.pins.1.strs hp
    have hb : ((List.range T.length).map fun i => T.getD i [] ++ [m]).flatten = bodyM m T := by
      unfold bodyM
      congr 1
      apply List.ext_getElem (by simp)
      intro i h1 h2
      have hi : i < T.length := by simpa using h1
      simp [List.getD_eq_getElem?_getD, hi]
    ((with_reducible refine i_nil ?_))
    refine join_tx F' hS (by rw [hb]; simp only [sizeLine]; omega) ?_; intro _ _ _
    rw [hb]
    skip
    refine o_addS (by assumption) (by simp [sizeLine]; omega) ?_; intro _ _ _
    ((with_reducible refine r_str (xs := ?x240) ?h240 (by assumption) ?_); (case h240 => exact sx8); intro _ _ _)
    refine o_addS (by assumption) (by simp [sizeLine]; omega) ?_; intro _ _ _
    ((with_reducible refine storeV (by assumption) ?_ (by kernel_rfl)); intro _ _)
    refine cur (by assumption) ?_; intro F
    exact h _ _ (F.weak (Fm.stb (by assumption)) fun x => x.2)
end
/-! ## the port -/

section
variable {w : World} {A : Around} {E : Value → Shared → Prop} {s : Shared} {g : Shared} {env : Env} {l : List (Str × Value)} {P : Heap → Prop} {D f sa : Addr} {T : List (List Nat)} {W0 : List Nat} {ns : List Int}
theorem law_ports {m : Nat} {t : Tok} {Q : Flow → Shared → Prop} (R : Rm A 6) (hfr : A.frames = some [env]) (hef : env.frame = some env.locals) (X : TT T) (hm : M3 m) (F : Fm w g true scL env s l P) (hrp : lkp l "reply" = some (.str (tx (repX 57 m (bodyM m T))) t))
    (h : ∀ s', Fm w g true scL env s' l P → Q .next s') : wpAny (MM w) A (exec (lX 13) env) Q E s := by
  conv in lX 13 => whnf
  have hkm : env.scope.kind ≠ .module := by rw [F.hsc]; decide
  have Y := X.reply (d := 57) hm (.inr rfl)
  have hlen : (repX 57 m (bodyM m T)).length ≤ 1000 := Y.len
  have e1 : (repX 57 m (bodyM m T)).dropLast ++ [48, 41] = repX 57 m (bodyM m T ++ [48]) := by
    unfold repX
    rw [show 50 :: 50 :: 57 :: 32 :: 40 :: (m :: bodyM m T ++ [41]) = (50 :: 50 :: 57 :: 32 :: 40 :: m :: bodyM m T) ++ [41] from rfl, List.dropLast_concat]
    simp
  have e2 : [50, 50, 56] ++ (repX 57 m (bodyM m T)).drop 3 = repX 56 m (bodyM m T) := rfl
  ((with_reducible refine e_if ?_; refine t_bool ?_; refine t_or ?_; refine t_cmp ?_ (by kernel_rfl); refine r_call ?_); (with_reducible refine name_glob (v := ?v241) (by assumption) ?h241 ?_ (by kernel_rfl)); (case h241 => exact gl_law_port _))
  refine cw_fn (fn_port _) ?_ (by kernel_rfl) (by kernel_rfl)
  ((with_reducible refine i_cons ?_ (by kernel_rfl); refine v_bin ?_; refine r_slice ?_); (with_reducible refine lkp_name (v := ?v242) (by assumption) ?h242 ?_ (by kernel_rfl)); (case h242 => repeat (first | with_reducible exact lkp_here _ _ _ | with_reducible assumption | refine lkp_there (by kernel_rfl) ?_)); (with_reducible refine p_none ?_; refine p_some ?_; refine v_neg ?_); (with_reducible refine r_int (by assumption) ?_); intro _ _ _; (with_reducible refine u_neg (by assumption) ?_); intro _ _ _)
  refine slice_tx (lo := none) (hi := some (-1, _)) (by assumption) (by simp only [sizeLine]; omega) (st_init _ (by simp [repX])) ?_; intro _ _ _
  ((with_reducible refine r_str (xs := ?x243) ?h243 (by assumption) ?_); (case h243 => exact sx9); intro _ _ _)
  refine o_addS (by assumption) (by simp [sizeLine]; omega) ?_; intro _ _ F
  rw [e1]
  ((with_reducible refine i_nil ?_))
  refine ⟨F.Wd, port_spec F (R.less (by decide)) (X.nought hm) hfr hef hkm (fun h => nomatch h) (fun _ _ s₂ t₂ F => ?_) fun _ q _ => ?_⟩
  case refine_2 => rcases hm with rfl | rfl | rfl <;> cases q
  ((with_reducible refine r_str (xs := ?x244) ?h244 (by assumption) ?_); (case h244 => exact sx14); intro _ _ _; (with_reducible refine ne_tx ?_; refine wpAny_truthy_bool ?_))
  refine or_f (by decide) ?_
  ((with_reducible refine t_or ?_; refine t_cmp ?_ (by kernel_rfl); refine r_call ?_); (with_reducible refine name_glob (v := ?v245) (by assumption) ?h245 ?_ (by kernel_rfl)); (case h245 => exact gl_law_port _))
  refine cw_fn (fn_port _) ?_ (by kernel_rfl) (by kernel_rfl)
  ((with_reducible refine i_cons ?_ (by kernel_rfl); refine v_bin ?_); (with_reducible refine r_str (xs := ?x246) ?h246 (by assumption) ?_); (case h246 => exact sx11); intro _ _ _; (with_reducible refine r_slice ?_); (with_reducible refine lkp_name (v := ?v247) (by assumption) ?h247 ?_ (by kernel_rfl)); (case h247 => repeat (first | with_reducible exact lkp_here _ _ _ | with_reducible assumption | refine lkp_there (by kernel_rfl) ?_)); (with_reducible refine p_some ?_); (with_reducible refine r_int (by assumption) ?_); intro _ _ _; (with_reducible refine p_none ?_))
  refine slice_tx (lo := some (3, _)) (hi := none) (by assumption) (by simp only [sizeLine]; omega) (st_from _ 3 (by simp [repX])) ?_; intro _ _ _
  skip
  refine o_addS (by assumption) (by simp [sizeLine]; omega) ?_; intro _ _ F
  rw [e2]
  ((with_reducible refine i_nil ?_))
  refine ⟨F.Wd, port_spec F (R.less (by decide)) (X.reply (d := 56) hm (.inl rfl)) hfr hef hkm (fun _ s₂ t₂ F => ?_) (fun h => nomatch h) (fun h => nomatch h)⟩
  ((with_reducible refine r_str (xs := ?x248) ?h248 (by assumption) ?_); (case h248 => exact sx15); intro _ _ _; (with_reducible refine ne_tx ?_; refine wpAny_truthy_bool ?_))
  refine or_f (by decide) ?_
  ((with_reducible refine or_nil ?_))
  refine if_f rfl ?_
  ((with_reducible refine e_nil ?_))
  exact h _ (by assumption)
end
/-! ## the end of the law -/

section
variable {w : World} {A : Around} {E : Value → Shared → Prop} {s : Shared} {g : Shared} {env : Env} {l : List (Str × Value)} {P : Heap → Prop} {D f sa : Addr} {T : List (List Nat)} {W0 : List Nat} {ns : List Int}
theorem law_end {m : Nat} {t : Tok} {Q : Flow → Shared → Prop} (R : Rm A 6) (hfr : A.frames = some [env]) (hef : env.frame = some env.locals) (X : TT T) (hm : M3 m) (F : Fm w g true scL env s l (FX f D (castI (flN W0)) T)) (hne : W0 ≠ []) (hmx : maxl (flN W0) = T.length)
    (hrp : lkp l "reply" = some (.str (tx (repX 57 m (bodyM m T))) t)) (hf : lkp l "falling" = some (.ref f)) (ht : lkp l "table" = some (.ref D)) (h : ∀ s', Gw g s' → Q (.ret (.bool true)) s') : wpAny (MM w) A (execs [lX 14, lX 15, lX 16] env) Q E s := by
  have hkm : env.scope.kind ≠ .module := by rw [F.hsc]; decide
  have Y := X.reply (d := 57) hm (.inr rfl)
  have hfn : castI (flN W0) ≠ [] := by
    intro e
    have := congrArg List.length e
    simp [castI, flN_len] at this
    exact hne this
  conv in lX 14 => whnf
  conv in lX 15 => whnf
  conv in lX 16 => whnf
  ((with_reducible refine e_cons ?_; refine e_assign ?_ (by kernel_rfl)); (with_reducible refine r_str (xs := ?x249) ?h249 (by assumption) ?_); (case h249 => exact sx14); intro _ _ _; (with_reducible refine storeV (by assumption) ?_ (by kernel_rfl)); intro _ _; (with_reducible refine e_cons ?_; refine e_if ?_; refine t_cmp ?_ (by kernel_rfl); refine r_call ?_); (with_reducible refine name_boot (v := ?v250) (by assumption) ?h250 ?_ (by kernel_rfl) (by kernel_rfl)); (case h250 => exact bt_max); (with_reducible refine cw_builtin ?_ (by kernel_rfl) (by kernel_rfl); refine i_cons ?_ (by kernel_rfl)); (with_reducible refine lkp_name (v := ?v251) (by assumption) ?h251 ?_ (by kernel_rfl)); (case h251 => repeat (first | with_reducible exact lkp_here _ _ _ | with_reducible assumption | refine lkp_there (by kernel_rfl) ?_)); (with_reducible refine i_nil ?_))
  refine cur (by assumption) ?_; intro F
  refine c_max F R.handled F.pins.1.ints hfn ?_; intro M tM s₁ h1 h2 F
  obtain rfl : M = (maxl (flN W0) : Nat) := by
    refine max_is (List.mem_cons_of_mem _ h1) fun b hb => ?_
    rcases List.mem_cons.mp hb with rfl | hb
    · obtain ⟨n, _, rfl⟩ := List.mem_map.mp h1; omega
    · exact h2 b hb
  rw [hmx]
  ((with_reducible refine r_int (by assumption) ?_); intro _ _ _; (with_reducible refine eq_int ?_; refine wpAny_truthy_bool ?_))
  by_cases h3 : T.length = 3
  · refine if_t (by simp [h3]) ?_
    ((with_reducible refine e_cons ?_; refine e_assign ?_ (by kernel_rfl)))
    refine r_tuple ?_
    ((with_reducible refine i_cons ?_ (by kernel_rfl)); (with_reducible refine r_str (xs := ?x252) ?h252 (by assumption) ?_); (case h252 => exact sx16); intro _ _ _; (with_reducible refine i_cons ?_ (by kernel_rfl); refine r_call ?_); (with_reducible refine name_boot (v := ?v253) (by assumption) ?h253 ?_ (by kernel_rfl) (by kernel_rfl)); (case h253 => exact bt_int); (with_reducible refine cw_type ?_ (by kernel_rfl) (by kernel_rfl); refine i_cons ?_ (by kernel_rfl); refine r_sub ?_); (with_reducible refine lkp_name (v := ?v254) (by assumption) ?h254 ?_ (by kernel_rfl)); (case h254 => repeat (first | with_reducible exact lkp_here _ _ _ | with_reducible assumption | refine lkp_there (by kernel_rfl) ?_)); (with_reducible refine r_int (by assumption) ?_); intro _ _ _)
    refine cur (by assumption) ?_; intro F
    have hg : T[2]? = some (T.getD 2 []) := by rw [List.getD_eq_getElem?_getD, List.getElem?_eq_getElem (by omega)]; rfl
    obtain ⟨q1, q2, q3⟩ := X.ok _ (List.mem_of_getElem? hg)
    refine sub_strs (k := 2) (m := T.getD 2 []) F.pins.2 rfl (by decide) hg ?_; intro _
    ((with_reducible refine i_nil ?_))
    refine c_int (by assumption) (fun c hc => by have := q3 c hc; omega) q1 (by omega) ?_; intro _ _ _
    ((with_reducible refine i_nil ?_))
    refine ⟨by simp [sizeLine], _, _, _, _, _, by assumption, fun T2 s₃ hT oT F G => ?_⟩
    ((with_reducible refine storeV (by assumption) ?_ (by kernel_rfl)); intro _ _; (with_reducible refine e_nil ?_; refine e_cons ?_; refine e_ret ?_; refine v_cmp ?_ (by kernel_rfl); refine r_call ?_); (with_reducible refine name_glob (v := ?v255) (by assumption) ?h255 ?_ (by kernel_rfl)); (case h255 => exact gl_law_port _))
    refine cw_fn (fn_port _) ?_ (by kernel_rfl) (by kernel_rfl)
    ((with_reducible refine i_cons ?_ (by kernel_rfl)); (with_reducible refine lkp_name (v := ?v256) (by assumption) ?h256 ?_ (by kernel_rfl)); (case h256 => repeat (first | with_reducible exact lkp_here _ _ _ | with_reducible assumption | refine lkp_there (by kernel_rfl) ?_)); (with_reducible refine i_nil ?_))
    refine cur (by assumption) ?_; intro F
    refine ⟨F.Wd, port_spec F (R.less (by decide)) Y hfr hef hkm (fun h => nomatch h) (fun _ z => absurd ⟨rfl, h3⟩ z) fun _ _ _ T3 s₄ tp' tn F => ?_⟩
    ((with_reducible refine lkp_name (v := ?v257) (by assumption) ?h257 ?_ (by kernel_rfl)); (case h257 => repeat (first | with_reducible exact lkp_here _ _ _ | with_reducible assumption | refine lkp_there (by kernel_rfl) ?_)))
    refine eq_tup R.u64 F.pins.1 F.pins.2.1 (by decide) ?_
    skip
    exact h _ (Fm.gw (by assumption))
  · refine if_f (by simp; omega) ?_
    ((with_reducible refine e_nil ?_; refine e_cons ?_; refine e_ret ?_; refine v_cmp ?_ (by kernel_rfl); refine r_call ?_); (with_reducible refine name_glob (v := ?v258) (by assumption) ?h258 ?_ (by kernel_rfl)); (case h258 => exact gl_law_port _))
    refine cw_fn (fn_port _) ?_ (by kernel_rfl) (by kernel_rfl)
    ((with_reducible refine i_cons ?_ (by kernel_rfl)); (with_reducible refine lkp_name (v := ?v259) (by assumption) ?h259 ?_ (by kernel_rfl)); (case h259 => repeat (first | with_reducible exact lkp_here _ _ _ | with_reducible assumption | refine lkp_there (by kernel_rfl) ?_)); (with_reducible refine i_nil ?_))
    refine cur (by assumption) ?_; intro F
    refine ⟨F.Wd, port_spec F (R.less (by decide)) Y hfr hef hkm (fun h => nomatch h) (fun _ _ s₄ t₄ F => ?_) fun _ _ z => absurd z h3⟩
    ((with_reducible refine lkp_name (v := ?v260) (by assumption) ?h260 ?_ (by kernel_rfl)); (case h260 => repeat (first | with_reducible exact lkp_here _ _ _ | with_reducible assumption | refine lkp_there (by kernel_rfl) ?_)); (with_reducible refine eq_tx ?_))
    exact h _ (Fm.gw (by assumption))
end
/-! ## the law -/

section
variable {w : World} {A : Around} {E : Value → Shared → Prop} {s : Shared} {ns : List Int}
theorem grow_end {ws : List (List Nat)} {L : List Rw} (hl : ws.length = 4) (hw : ∀ x ∈ ws, WordOk x) (G : Grow ws 4 L) : Tabl (ws.getD 3 [] ++ ws.getD 2 [] ++ ws.getD 1 [] ++ ws.getD 0 []) 0 L := by
  have hd := G.wd
  rw [List.take_of_length_le (by omega)] at hd
  have hL := G.len
  have hsm := G.small
  match L, hL, hd, hsm with
  | [r0, r1, r2, r3], _, hd, hsm =>
    refine ⟨rfl, G.ch, okrows hw G.wd, ?_, ?_⟩
    · rw [← hd]
      exact KE.of_eq (by simp [read])
    · have h0 := hsm r0 (by simp)
      have h1 := hsm r1 (by simp)
      have h2 := hsm r2 (by simp)
      have h3 := hsm r3 (by simp)
      simp [dotsOf]; omega
theorem str_zero {L : List Rw} (h : ∀ r ∈ L, r.1 = 0) : L.map str = L.map (·.2) := List.map_congr_left fun r hr => by unfold str; rw [h r hr]; rfl
theorem tt_of {W0 : List Nat} {turn : Nat} {L : List Rw} (T : Tabl W0 turn L) (hW : W0.length ≤ 12) : TT (ne (L.map (·.2))) where
  len := Nat.le_trans (List.length_filter_le _ _) (by rw [List.length_map, T.len]; exact Nat.le_refl _)
  ok := fun x hx => by
    obtain ⟨h1, h2⟩ := List.mem_filter.mp hx
    obtain ⟨r, hr, rfl⟩ := List.mem_map.mp h1
    refine ⟨fun e => (by rw [e] at h2; cases h2), ?_, (T.ok r hr).2⟩
    have := read_mem hr
    rw [T.ke.len] at this; omega
theorem fn_law (P : Params) : fnOk P 232 (fdL 24 "law" 231) := ⟨by decide, by kernel_rfl⟩
theorem law_spec {a : Addr} (W : Wd w s.heap) (R : Rm A 8) (hfr : A.frames = some []) (ha : Ints a ns s.heap) (hns : ns.length ≤ 63) {Q : Value → Shared → Prop} (h : ∀ s', Gw s s' → Q (.bool true) s') : wpAny (MM w) A (call (.ref 232) [.ref a]) Q E s := by
  refine callF (body := fB (st 24)) (binds := [("script", .ref a)]) ["script"] W R.lim (fn_law _) (by kernel_rfl) (by kernel_rfl) (by kernel_rfl) (by kernel_rfl) (by kernel_rfl) rfl (by decide +kernel) (by decide +kernel) (by kernel_rfl) ⟨rfl, rfl⟩ ?_
  intro s₁ env henv F
  have R7 := R.deeper env
  have R6 : Rm (A.deeper env) 6 := R7.less (by decide)
  have hfr1 : (A.deeper env).frames = some [env] := Around.frames_deeper hfr
  have hef : env.frame = some env.locals := by rw [henv]; rfl
  have eb : fB (st 24) = [lX 0, lX 1, lX 2, lX 3, lX 4, lX 5, lX 6, lX 7, lX 8, lX 9, lX 10, lX 11, lX 12, lX 13, lX 14, lX 15, lX 16] := by rfl
  rw [eb]
  clear eb henv
  refine e_cons (law_words F (R6.less (by decide)) ha hns (lkp_here _ _ _) fun c ws s₂ hl hw gc oc F => ?_)
  conv in lX 1 => whnf
  conv in lX 2 => whnf
  conv in lX 4 => whnf
  conv in lX 9 => whnf
  have lc := F.pins.1.lt
  have gz := F.gw.size
  refine e_cons (e_assign (r_listN F fun a1 s₃ g1 o1 F => storeV F (fun s₄ F => ?_) (by kernel_rfl)) (by kernel_rfl))
  have la := F.pins.1.ls.lt
  have gz2 := F.gw.size
  have lc2 := F.pins.2.1.lt
  refine e_cons (e_assign (r_listN F fun b1 s₅ g2 o2 F => storeV F (fun s₆ F => ?_) (by kernel_rfl)) (by kernel_rfl))
  have F := F.weak (R := PR a1 b1 c [] [] ws) (fun h h' k x => ⟨stb_sn o1 h h' k x.1, stb_sn o2 h h' k x.2.1, stb_strs _ oc h h' k x.2.2⟩) fun x => ⟨⟨[], x.2.1, rfl⟩, ⟨[], x.1, rfl⟩, x.2.2.1⟩
  refine e_cons (law_place R6 hl hw F (Nat.le_trans gz g1) (Nat.le_trans gz2 g2) o1 o2 oc (Nat.ne_of_lt (Nat.lt_of_lt_of_le la g2)) (Nat.ne_of_gt (Nat.lt_of_lt_of_le lc g1)) (Nat.ne_of_gt (Nat.lt_of_lt_of_le lc2 g2))
    (sa := a) (by ((repeat (first | (with_reducible exact lkp_here _ _ _) | (with_reducible assumption) | refine lkp_there (by kernel_rfl) ?_)))) (by ((repeat (first | (with_reducible exact lkp_here _ _ _) | (with_reducible assumption) | refine lkp_there (by kernel_rfl) ?_)))) (by ((repeat (first | (with_reducible exact lkp_here _ _ _) | (with_reducible assumption) | refine lkp_there (by kernel_rfl) ?_)))) (by ((repeat (first | (with_reducible exact lkp_here _ _ _) | (with_reducible assumption) | refine lkp_there (by kernel_rfl) ?_)))) fun s₇ L a2 b2 l G oa ob hr hd hwd hsc F => ?_)
  have T := grow_end hl hw G
  generalize hW0 : ws.getD 3 [] ++ ws.getD 2 [] ++ ws.getD 1 [] ++ ws.getD 0 [] = W0 at T
  have hm : ∀ j, j < 4 → (ws.getD j []).length ≤ 3 ∧ ws.getD j [] ≠ [] := fun j hj => have := hw _ (List.mem_of_getElem? (getD_some (ws := ws) (i := j) (by omega))); ⟨this.len, this.ne⟩
  have hW : W0.length ≤ 12 := by
    have h0 := (hm 0 (by decide)).1
    have h1 := (hm 1 (by decide)).1
    have h2 := (hm 2 (by decide)).1
    have h3 := (hm 3 (by decide)).1
    rw [← hW0]; simp only [List.length_append]; omega
  have hWn : W0 ≠ [] := fun e => by
    have h3 := (hm 3 (by decide)).2
    rw [← hW0] at e
    simp at e
    exact h3 (by simpa [List.getD_eq_getElem?_getD] using e.1)
  refine e_cons (e_assign (r_int F fun t₁ s₈ F => storeV F (fun s₉ F => ?_) (by kernel_rfl)) (by kernel_rfl))
  have F := F.weak (R := TR a2 b2 c (L.map str) ws) (stb_tr oa ob oc) fun x => ⟨x.1.strs, x.2.1.strs, x.2.2⟩
  refine e_cons (law_fill (sa := a) (W0 := W0) R6 hW ha hns oc ⟨L, a2, b2, _, 0, rfl, T, oa, ob, lkp_there (by kernel_rfl) hr, lkp_there (by kernel_rfl) hd, lkp_there (by kernel_rfl) hwd, lkp_there (by kernel_rfl) hsc, ⟨_, lkp_here _ _ _⟩, F⟩ ?_)
  intro s₁ L a2 b2 l turn T h0 oa ob hr hd hwd hsc F
  have hxl : (L.map str).length = 4 := by rw [List.length_map]; exact T.len
  have hpl := plain_law T.ch T.ok h0 T.ke hWn
  have X := tt_of T hW
  have hz := str_zero h0
  refine e_cons (law_table R6 hxl F hr fun D s₂ oD F => ?_)
  rw [hz] at F
  generalize hTn : ne (L.map (·.2)) = Tn at *
  refine e_cons (law_figs hl hw F (lkp_there (by kernel_rfl) hwd) (fun h x => x.2.2.2) fun t₂ s₃ F => ?_)
  rw [hW0] at F
  have hok : SOk (L.map (·.2)) := hz ▸ sok_str T.ok
  have hTk : SOk Tn := fun r hr c hc => by have := (X.ok r hr).2.2 c hc; omega
  refine e_cons (law_check (W0 := W0) (T := Tn) R7 hW hok hTk hpl.1 F (lkp_there (by kernel_rfl) (lkp_there (by kernel_rfl) hr)) (lkp_there (by kernel_rfl) (lkp_there (by kernel_rfl) hd)) (lkp_there (by kernel_rfl) (lkp_here _ _ _)) (lkp_here _ _ _) fun s₄ F => ?_)
  have lD := F.pins.1.lt
  have gz3 := F.gw.size
  refine e_cons (e_assign (r_listN F fun f s₅ g5 of F => storeV F (fun s₆ F => ?_) (by kernel_rfl)) (by kernel_rfl))
  have F := F.weak (R := FX f D [] Tn) ((stb_strs _ oD).and (stb_in of)) fun x => ⟨⟨[], x.1, rfl⟩, x.2.1⟩
  refine e_cons (law_fall (sa := a) (W0 := W0) R6 hW F (Nat.le_trans gz3 g5) of oD (Nat.ne_of_gt (Nat.lt_of_lt_of_le lD g5)) (lkp_here _ _ _) (lkp_there (by kernel_rfl) (lkp_here _ _ _)) (lkp_there (by kernel_rfl) (lkp_there (by kernel_rfl) (lkp_here _ _ _)))
    (lkp_there (by kernel_rfl) (lkp_there (by kernel_rfl) (lkp_there (by kernel_rfl) hsc))) ?_)
  intro s₇ l hf ht hsc F
  refine e_cons (law_mark R6 ha F hsc fun m tm s₈ hmm F => ?_)
  refine e_cons (law_reply R6 X hmm F (fun h x => x.2) (lkp_there (by kernel_rfl) ht) (lkp_here _ _ _) fun tr s₉ F => ?_)
  refine e_cons (law_ports R6 hfr1 hef X hmm F (lkp_here _ _ _) fun s₂ F => ?_)
  exact law_end (W0 := W0) R6 hfr1 hef X hmm F hWn hpl.2 (lkp_here _ _ _) (lkp_there (by kernel_rfl) (lkp_there (by kernel_rfl) hf)) (lkp_there (by kernel_rfl) (lkp_there (by kernel_rfl) ht)) fun s' hg => h s' hg
end
/-! ## the entry -/
theorem ns_eq {h : Heap} {a : Addr} {m m' : Str → Option Value} (x : h.Ns a m) (y : h.Ns a m') : ∀ n, m n = m' n := by
  obtain ⟨o, es, ep, e, d, _, f⟩ := x
  obtain ⟨o', es', ep', e', d', _, f'⟩ := y
  rw [e] at e'; cases e'
  rw [d] at d'; cases d'
  exact fun n => (f n).symm.trans (f' n)
theorem tab0 {w : World} {h : Heap} (k : InK KX w h) : Tab h := by
  have h7 := k 107 _ rfl
  have h3 := k 103 _ rfl
  exact ⟨#[], ⟨_, _, _, _, _, _, _, _, _, _, h7, rfl, rfl, rfl, rfl, rfl, rfl, h3, rfl, trivial, by decide⟩, ⟨⟨_, _, h7, rfl, rfl, rfl⟩, h3⟩⟩
theorem wd0 {w : World} {h : Heap} {loose : List Str} {mean : ExcName → Option Value} {mg mb : Str → Option Value} {p : Program} (T : Top p loose mean mg mb h) (Y : hk.says w h) : Wd w h := by
  have hg : h.Ns mainGlobals (glob w.params) := ⟨_, _, _, Y.1 3 _ (kx_lookup3 _), rfl, glob_keys _, fun _ => rfl⟩
  refine ⟨fun a o _ e => Y.1 a o e, ⟨mb, T.b, T.builtins⟩, T.nolimit, T.nodigits, Y.2, tab0 Y.1, ?_⟩
  obtain ⟨bm, ob, b1, _, b3, b4, b5, b6⟩ := T.bmain
  have e4 : glob w.params "__builtins__" = some (.ref 4) := by kernel_rfl
  rw [ns_eq T.g hg "__builtins__", e4] at b1
  cases b1
  exact ⟨ob, b3, b4, b5, b6⟩
theorem gl_law (P : Params) : glob P "law" = some (.ref 232) := by kernel_rfl
theorem ints_items {R : WRecords} : ∀ {xs : List WData}, WShape.hasItems R xs .int = true → ∃ ns : List Int, xs = ns.map WData.int
  | [], _ => ⟨[], rfl⟩
  | x :: xs, h => by
    simp only [WShape.hasItems, Bool.and_eq_true] at h
    obtain ⟨ns, rfl⟩ := ints_items h.2
    obtain ⟨i, rfl⟩ := hasW_int h.1
    exact ⟨i :: ns, rfl⟩
theorem ints_read {R : WRecords} {cl : Str → Option Addr} {h : Heap} : ∀ {ns : List Int} {vs : List Value} {as : List Addr}, ReadsAllW R cl h vs (ns.map WData.int) as → ∃ ts, vs = intV ts ∧ ts.map (·.1) = ns
  | [], vs, as, x => by
    generalize hq : (List.map WData.int []) = q at x
    cases x with
    | nil => exact ⟨[], rfl, rfl⟩
    | cons _ _ => cases hq
  | n :: ns, vs, as, x => by
    generalize hq : (List.map WData.int (n :: ns)) = q at x
    cases x with
    | nil => cases hq
    | cons a b =>
      cases hq
      obtain ⟨ts, rfl, e⟩ := ints_read b
      cases a with
      | int i t => exact ⟨(n, t) :: ts, rfl, by simp [e]⟩
theorem old_gw {s s' : Shared} (x : Tab s.heap) (h3 : s.heap.get? 103 = some ⟨.none, none, .fields #[], #[]⟩) (G : Gw s s') : OldK s.heap s'.heap := by
  obtain ⟨ps, _, t⟩ := G.tab x
  obtain ⟨ps0, _, t0⟩ := x
  have key : ∀ b o, s.heap.get? b = some o → (b = 103 ∧ o = ⟨.none, none, .fields #[], #[]⟩) ∨ s'.heap.get? b = some o := fun b o e => by
    by_cases hb : b = 103
    · subst hb; rw [h3] at e; cases e; exact .inl ⟨rfl, rfl⟩
    · exact .inr (G.keep b o e fun _ => hb)
  refine ⟨fun b o e => ?_, fun b o e => ?_⟩
  · rcases key b o e with ⟨rfl, rfl⟩ | h
    · exact .inr (.inl ⟨t0.isCodeTable, rfl, #[], ps, rfl, by simpa using t.2⟩)
    · exact .inl h
  · rcases key b o e with ⟨rfl, rfl⟩ | h
    · exact ⟨_, t.2⟩
    · exact ⟨_, h⟩
theorem rm0 : Rm callerA 8 := ⟨rfl, by decide, by decide⟩
theorem cw_all : PySem.Challenge.rw_xl0004_01.Holds := by
  refine head ?_
  intro w s₀ s₁ mg mb G Y fa o pm cd doc dV kV ho hd hcd hD hmg hg args vals as hpre hlay hrd hwl hlo
  have W : Wd w s₁.heap := wd0 G.T Y
  have e1 : glob w.params "law" = some (.ref 232) := gl_law _
  have e2 : mg (dLaw.name) = glob w.params "law" := ns_eq G.T.g W.g _
  rw [e2, e1] at hmg
  cases hmg
  obtain ⟨hsh, hcond⟩ := pre_splitW hpre
  obtain ⟨d, r, rfl, hd1, hr⟩ := hasAllW_cons hsh
  obtain rfl := hasAllW_nil hr
  obtain ⟨xs, rfl, hit⟩ := hasW_list hd1
  obtain ⟨ns, rfl⟩ := ints_items hit
  have hlen : ns.length ≤ 63 := by
    have h1 : (WTm.not (.lt (.lit (.int 63)) (.len (.arg 0)))).holds _ _ = true := (holds_andW hcond).1
    simp [WTm.holds, WTm.value] at h1
    rw [show less? (WData.int 63) (WData.int (ns.length : Int)) = some (decide ((63 : Int) < (ns.length : Int))) from rfl] at h1
    by_cases h2 : (63 : Int) < (ns.length : Int)
    · simp [h2] at h1
    · omega
  have hI : ∃ L, vals = [.ref L] ∧ Ints L ns s₁.heap := by
    generalize hq : [WData.list (List.map WData.int ns)] = q at hrd
    cases hrd with
    | nil => cases hq
    | cons a b =>
      cases hq
      cases b with
      | nil =>
        cases a with
        | list e1 e2 e3 e4 =>
          obtain ⟨ts, hts, hn⟩ := ints_read e4
          exact ⟨_, rfl, ts, ⟨_, e1, e2, _, by rw [e3, ← hts]⟩, hn⟩
  obtain ⟨L, rfl, hI⟩ := hI
  refine law_spec (ns := ns) W rm0 rfl hI hlen fun s' G' => ?_
  have hpost : ∀ ds, PySem.Challenge.rw_xl0004_01.row.toRowW.claim.post [WData.list (List.map WData.int ns)] (.bool true) ds = true := fun ds => by
    show (WShape.has [] (.bool true) .bool && (WTm.eq .res (.lit (.bool true))).holds _ _) = true
    simp [WTm.holds, WTm.value, WShape.has, WShape.arms]
    rw [show same (WData.bool true) (WData.bool true) = true from by simp [same]]
  exact ⟨.inl ⟨.bool true, .bool true, [], rfl, fun _ => rfl, .bool _, hpost _, fun _ => ⟨List.nodup_nil, fun _ h => nomatch h⟩⟩, old_gw W.tab (Y.1 103 _ rfl) G', G'.os, G'.gens (.of_eq hg)⟩
end Mine
theorem PySem.Challenge.cw_xl0004_01_holds : PySem.Challenge.rw_xl0004_01.Holds :=
  Mine.cw_all
