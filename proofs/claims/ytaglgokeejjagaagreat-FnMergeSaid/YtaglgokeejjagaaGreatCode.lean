/- The order of types, by codes of numbers: plain Lean. -/
import Derived.Test.YtaglgokeejjagaaGreatTyB
namespace Go.Proofs.YtaglgokeejjagaaGreat
set_option linter.unusedVariables false
set_option linter.unusedSimpArgs false
open Go.RowKit

/-! ### The order of lists of numbers -/
def lexc : List Nat → List Nat → Int
  | [], [] => 0
  | [], _ :: _ => -1
  | _ :: _, [] => 1
  | a :: r, b :: s => if a < b then -1 else if b < a then 1 else lexc r s
theorem lexc_cons (a b : Nat) (r s : List Nat) : lexc (a :: r) (b :: s) = if a < b then -1 else if b < a then 1 else lexc r s := rfl
theorem lexc_same (a : Nat) (r s : List Nat) : lexc (a :: r) (a :: s) = lexc r s := by rw [lexc_cons, if_neg (Nat.lt_irrefl _), if_neg (Nat.lt_irrefl _)]
theorem lexc_lt {a b : Nat} (h : a < b) (r s : List Nat) : lexc (a :: r) (b :: s) = -1 := by rw [lexc_cons, if_pos h]
theorem lexc_gt {a b : Nat} (h : b < a) (r s : List Nat) : lexc (a :: r) (b :: s) = 1 := by rw [lexc_cons, if_neg (by omega), if_pos h]
theorem lexc_self : ∀ (l : List Nat), lexc l l = 0
  | [] => rfl
  | a :: r => by rw [lexc_same, lexc_self r]
theorem lexc_eq : ∀ {l l' : List Nat}, lexc l l' = 0 → l = l'
  | [], [], _ => rfl
  | [], _ :: _, h => by cases h
  | _ :: _, [], h => by cases h
  | a :: r, b :: s, h => by
    rw [lexc_cons] at h
    by_cases h1 : a < b
    · rw [if_pos h1] at h; cases h
    · rw [if_neg h1] at h
      by_cases h2 : b < a
      · rw [if_pos h2] at h; cases h
      · rw [if_neg h2] at h
        rw [lexc_eq h, show a = b by omega]
theorem lexc_zero {l l' : List Nat} : lexc l l' = 0 ↔ l = l' := ⟨lexc_eq, fun h => h ▸ lexc_self l⟩
theorem lexc_neg : ∀ (l l' : List Nat), lexc l' l = - lexc l l'
  | [], [] => rfl
  | [], _ :: _ => rfl
  | _ :: _, [] => rfl
  | a :: r, b :: s => by
    rw [lexc_cons, lexc_cons]
    by_cases h1 : a < b
    · rw [if_neg (by omega), if_pos h1, if_pos h1]; rfl
    · rw [if_neg h1]
      by_cases h2 : b < a
      · rw [if_pos h2, if_neg h1, if_pos h2]
      · rw [if_neg h2, if_neg h2, if_neg h1, lexc_neg r s]
theorem lexc_tri : ∀ (l l' : List Nat), lexc l l' = -1 ∨ lexc l l' = 0 ∨ lexc l l' = 1
  | [], [] => .inr (.inl rfl)
  | [], _ :: _ => .inl rfl
  | _ :: _, [] => .inr (.inr rfl)
  | a :: r, b :: s => by
    rw [lexc_cons]
    by_cases h1 : a < b
    · rw [if_pos h1]; exact .inl rfl
    · rw [if_neg h1]
      by_cases h2 : b < a
      · rw [if_pos h2]; exact .inr (.inr rfl)
      · rw [if_neg h2]; exact lexc_tri r s
theorem lexc_trans : ∀ {x y z : List Nat}, lexc x y < 0 → lexc y z < 0 → lexc x z < 0
  | [], y, [], h, k => by
    cases y with
    | nil => exact h
    | cons b s => exact absurd (show (1 : Int) < 0 from k) (by decide)
  | [], _, _ :: _, h, k => show (-1 : Int) < 0 by decide
  | _ :: _, [], _, h, k => absurd (show (1 : Int) < 0 from h) (by decide)
  | _ :: _, _ :: _, [], h, k => absurd (show (1 : Int) < 0 from k) (by decide)
  | a :: r, b :: s, c :: t, h, k => by
    rw [lexc_cons] at h k ⊢
    by_cases h1 : a < b
    · by_cases k1 : b < c
      · rw [if_pos (by omega)]; decide
      · rw [if_neg k1] at k
        by_cases k2 : c < b
        · rw [if_pos k2] at k; exact absurd k (by decide)
        · rw [if_pos (by omega)]; decide
    · rw [if_neg h1] at h
      by_cases h2 : b < a
      · rw [if_pos h2] at h; exact absurd h (by decide)
      · rw [if_neg h2] at h
        by_cases k1 : b < c
        · rw [if_pos (by omega)]; decide
        · rw [if_neg k1] at k
          by_cases k2 : c < b
          · rw [if_pos k2] at k; exact absurd k (by decide)
          · rw [if_neg k2] at k
            rw [if_neg (by omega), if_neg (by omega)]
            exact lexc_trans h k
theorem lexc_le_trans {x y z : List Nat} (h : lexc x y ≤ 0) (k : lexc y z ≤ 0) : lexc x z ≤ 0 := by
  rcases Int.lt_or_eq_of_le h with h | h
  · rcases Int.lt_or_eq_of_le k with k | k
    · exact Int.le_of_lt (lexc_trans h k)
    · rw [← lexc_eq k]; exact Int.le_of_lt h
  · rw [lexc_eq h]; exact k
theorem lexc_app_same (p : List Nat) (u v : List Nat) : lexc (p ++ u) (p ++ v) = lexc u v := by
  induction p with
  | nil => rfl
  | cons a r ih => rw [List.cons_append, List.cons_append, lexc_same, ih]
/-- Neither of two lists is the other's beginning. -/
def Apart (x y : List Nat) : Prop := ∀ u v, x ++ u ≠ y ++ v
theorem lexc_apart : ∀ {x y : List Nat}, Apart x y → ∀ u v, lexc (x ++ u) (y ++ v) = lexc x y
  | [], y, h, u, v => False.elim (by have := h y []; simp at this)
  | a :: r, [], h, u, v => False.elim (by have := h [] (a :: r); simp at this)
  | a :: r, b :: s, h, u, v => by
    rw [List.cons_append, List.cons_append, lexc_cons, lexc_cons]
    by_cases h1 : a < b
    · rw [if_pos h1, if_pos h1]
    · rw [if_neg h1, if_neg h1]
      by_cases h2 : b < a
      · rw [if_pos h2, if_pos h2]
      · rw [if_neg h2, if_neg h2]
        exact lexc_apart (fun u v e => h u v (by rw [List.cons_append, List.cons_append, e, show a = b by omega])) u v

/-! ### Keys -/
def akOf (k : Ky) : AK := if k.kind = 1 then .bool false else if k.kind = 2 then .bool true else if k.kind = 4 then .text k.text else .none
theorem akOf_kyOf (a : AK) : akOf (kyOf a) = a := by
  cases a with
  | none => rfl
  | bool x => cases x <;> rfl
  | text t => rfl
def txCode (l : List UInt8) : List Nat := l.map (fun b => b.toNat + 1) ++ [0]
def akCode : AK → List Nat
  | .none => [0]
  | .bool x => if x = true then [2] else [1]
  | .text t => 3 :: txCode t.toList
theorem txCode_inj : ∀ {l l' : List UInt8} {u v : List Nat}, txCode l ++ u = txCode l' ++ v → l = l' ∧ u = v
  | [], [], u, v, h => by simpa [txCode] using h
  | [], _ :: _, u, v, h => by simp [txCode] at h
  | _ :: _, [], u, v, h => by simp [txCode] at h
  | a :: r, b :: s, u, v, h => by
    simp only [txCode, List.map_cons, List.cons_append, List.cons.injEq, Nat.add_right_cancel_iff] at h
    obtain ⟨h1, h2⟩ := txCode_inj (l := r) (l' := s) (u := u) (v := v) (by simpa [txCode] using h.2)
    exact ⟨by rw [h1, UInt8.toNat_inj.1 h.1], h2⟩
theorem akCode_inj {a b : AK} {u v : List Nat} (h : akCode a ++ u = akCode b ++ v) : a = b ∧ u = v := by
  cases a with
  | none => cases b with
    | none => simpa [akCode] using h
    | bool y => cases y <;> simp [akCode] at h
    | text y => simp [akCode] at h
  | bool x => cases b with
    | none => cases x <;> simp [akCode] at h
    | bool y => cases x <;> cases y <;> simp [akCode] at h <;> exact ⟨rfl, h⟩
    | text y => cases x <;> simp [akCode] at h
  | text x => cases b with
    | none => simp [akCode] at h
    | bool y => cases y <;> simp [akCode] at h
    | text y =>
      simp only [akCode, List.cons_append, List.cons.injEq, true_and] at h
      obtain ⟨h1, h2⟩ := txCode_inj h
      exact ⟨AK.code_inj (by simp [AK.code, h1]), h2⟩
theorem akCode_apart {a b : AK} (h : a ≠ b) : Apart (akCode a) (akCode b) := fun _ _ e => h (akCode_inj e).1
theorem tx_lt : ∀ (l l' : List UInt8), lexc (txCode l) (txCode l') < 0 ↔ l < l'
  | [], [] => by simp [txCode, lexc]
  | [], b :: s => by
    simp only [txCode, List.map_nil, List.nil_append, List.map_cons, List.cons_append, lexc_cons]
    rw [if_pos (by omega)]
    exact ⟨fun _ => List.nil_lt_cons _ _, fun _ => by decide⟩
  | a :: r, [] => by
    simp only [txCode, List.map_nil, List.nil_append, List.map_cons, List.cons_append, lexc_cons]
    rw [if_neg (by omega), if_pos (by omega)]
    exact ⟨fun h => absurd h (by decide), fun h => absurd h (List.not_lt_nil _)⟩
  | a :: r, b :: s => by
    simp only [txCode, List.map_cons, List.cons_append, lexc_cons]
    have ih := tx_lt r s
    simp only [txCode] at ih
    rw [List.cons_lt_cons_iff]
    by_cases h1 : a.toNat < b.toNat
    · rw [if_pos (by omega)]
      exact ⟨fun _ => .inl h1, fun _ => by decide⟩
    · rw [if_neg (by omega)]
      by_cases h2 : b.toNat < a.toNat
      · rw [if_pos (by omega)]
        refine ⟨fun h => absurd h (by decide), fun h => ?_⟩
        rcases h with h | ⟨h, _⟩
        · exact absurd h h1
        · exact absurd h2 (by rw [h]; exact Nat.lt_irrefl _)
      · rw [if_neg (by omega), ih]
        have e : a = b := UInt8.toNat_inj.1 (by omega)
        exact ⟨fun h => .inr ⟨e, h⟩, fun h => h.elim (fun h => absurd h h1) (fun h => h.2)⟩
theorem ak_tri (a b : AK) : a.cmp b = -1 ∨ a.cmp b = 0 ∨ a.cmp b = 1 := by
  cases a with
  | none => cases b <;> simp [AK.cmp, AK.rank]
  | bool x => cases b with
    | none => simp [AK.cmp, AK.rank]
    | bool y => cases x <;> cases y <;> simp [AK.cmp]
    | text y => simp [AK.cmp, AK.rank]
  | text x => cases b with
    | none => simp [AK.cmp, AK.rank]
    | bool y => simp [AK.cmp, AK.rank]
    | text y =>
      rw [AK.cmp_tt]
      split
      · exact .inr (.inl rfl)
      · split
        · exact .inl rfl
        · exact .inr (.inr rfl)
theorem ak_lt (a b : AK) : lexc (akCode a) (akCode b) < 0 ↔ AK.lt a b := by
  cases a with
  | none => cases b with
    | none => simp [akCode, lexc, AK.lt, AK.cmp, AK.rank]
    | bool y => cases y <;> simp [akCode, lexc, AK.lt, AK.cmp, AK.rank]
    | text y => simp [akCode, lexc, AK.lt, AK.cmp, AK.rank]
  | bool x => cases b with
    | none => cases x <;> simp [akCode, lexc, AK.lt, AK.cmp, AK.rank]
    | bool y => cases x <;> cases y <;> simp [akCode, lexc, AK.lt, AK.cmp, AK.rank]
    | text y => cases x <;> simp [akCode, lexc, AK.lt, AK.cmp, AK.rank]
  | text x => cases b with
    | none => simp [akCode, lexc, AK.lt, AK.cmp, AK.rank]
    | bool y => cases y <;> simp [akCode, lexc, AK.lt, AK.cmp, AK.rank]
    | text y =>
      rw [AK.lt_code]
      simp only [akCode, AK.code, lexc_same, List.cons_lt_cons_iff, true_and, tx_lt]
      exact ⟨.inr, fun h => h.elim (fun h => absurd h (by decide)) id⟩
theorem ak_code (a b : AK) : lexc (akCode a) (akCode b) = a.cmp b := by
  have h1 := ak_lt a b
  unfold AK.lt at h1
  have h0 : lexc (akCode a) (akCode b) = 0 ↔ a.cmp b = 0 := by
    rw [AK.cmp_zero, lexc_zero]
    exact ⟨fun h => (akCode_inj (u := []) (v := []) (by rw [h])).1, fun h => by rw [h]⟩
  have t1 := lexc_tri (akCode a) (akCode b)
  have t2 := ak_tri a b
  omega
theorem ak_app (a b : AK) (u v : List Nat) : lexc (akCode a ++ u) (akCode b ++ v) = if a.cmp b = 0 then lexc u v else a.cmp b := by
  by_cases h : a = b
  · subst h; rw [if_pos (AK.cmp_zero.2 rfl), lexc_app_same]
  · rw [if_neg (fun e => h (AK.cmp_zero.1 e)), lexc_apart (akCode_apart h), ak_code]

/-! ### Types -/
def optC : List (List Nat) → List Nat
  | [] => [0]
  | l => 1 :: l.flatten
def itC : List (List Nat) → List Nat
  | [] => [0]
  | a :: r => 1 :: (a ++ itC r)
def keyC (kd : Int) (ks : List Ky) (cs : List (List Nat)) : List (List Nat) := if kd = 6 then List.zipWith (fun k c => akCode (akOf k) ++ c) ks cs else cs
def code : ST → List Nat
  | .mk kd ks kids more => kd.toNat :: (optC (more.map code) ++ itC (keyC kd ks (kids.map code)))
termination_by t => SizeOf.sizeOf t
decreasing_by
  · exact ST.lt_more (by assumption)
  · exact ST.lt_kid (by assumption)
theorem code_eq (kd : Int) (ks : List Ky) (kids more : List ST) : code (.mk kd ks kids more) = kd.toNat :: (optC (more.map code) ++ itC (keyC kd ks (kids.map code))) := by rw [code]

/-- A type as the package makes them. -/
inductive NT : ST → Prop
  | null : NT (.mk 1 [] [] [])
  | bool : NT (.mk 2 [] [] [])
  | num : NT (.mk 3 [] [] [])
  | str : NT (.mk 4 [] [] [])
  | arr {kids more : List ST} (h1 : ∀ k ∈ kids, NT k) (h2 : more.length ≤ 1) (h3 : ∀ k ∈ more, NT k) : NT (.mk 5 [] kids more)
  | obj {ks : List AK} {kids more : List ST} (hk : ks.length = kids.length) (so : ks.Pairwise AK.lt) (h1 : ∀ k ∈ kids, NT k) (h2 : more.length = 0 ∨ more.length = 2) (h3 : ∀ k ∈ more, NT k) : NT (.mk 6 (ks.map kyOf) kids more)
  | set {t : ST} (h : NT t) : NT (.mk 7 [] [t] [])
  | any {kids : List ST} (h1 : ∀ k ∈ kids, NT k) : NT (.mk 8 [] kids [])

theorem mem_of_ih {m : Mem} {xs : List Value} {kids : List ST} (hl : xs.length = kids.length) (h : ∀ i (h1 : i < xs.length) (h2 : i < kids.length), NT kids[i]) : ∀ k ∈ kids, NT k := fun k hk => by
  obtain ⟨i, hi, rfl⟩ := List.getElem_of_mem hk
  exact h i (by omega) hi
theorem RT.nt {m : Mem} {v : Value} {t : ST} (h : RT m v t) : NT t := by
  induction h with
  | null => exact .null
  | bool => exact .bool
  | num => exact .num
  | str => exact .str
  | arr h0 h1 lk hl r e hd h2 e2 ih ih2 => exact .arr (mem_of_ih (m := m) hl ih) h2 (mem_of_ih (m := m) hd ih2)
  | obj h0 h1 lk hp hx hk r e0 e1 e so hd e2 ih ih2 =>
    refine .obj hk so (mem_of_ih (m := m) hx ih) ?_ ?_
    · rcases hd with ⟨_, rfl⟩ | ⟨q, _, _, h, _⟩
      · exact .inl rfl
      · exact .inr h
    · rcases hd with ⟨_, rfl⟩ | ⟨q, _, h1, h2, _⟩
      · simp
      · exact mem_of_ih (m := m) (h1.trans h2.symm) ih2
  | set h0 e ih => exact .set ih
  | any lk hl r e ih => exact .any (mem_of_ih (m := m) hl ih)

/-- What is asked of a set of types whose codes are told apart. -/
def Dec (s : ST) : Prop := ∀ t, NT t → ∀ u v, code s ++ u = code t ++ v → s = t ∧ u = v
theorem flat_dec : ∀ {l l' : List ST}, (∀ s ∈ l, Dec s) → (∀ s ∈ l', NT s) → l.length = l'.length → ∀ {u v : List Nat}, (l.map code).flatten ++ u = (l'.map code).flatten ++ v → l = l' ∧ u = v
  | [], [], _, _, _, u, v, h => ⟨rfl, by simpa using h⟩
  | [], _ :: _, _, _, hl, _, _, _ => by simp at hl
  | _ :: _, [], _, _, hl, _, _, _ => by simp at hl
  | a :: r, b :: s, h1, h2, hl, u, v, h => by
    simp only [List.map_cons, List.flatten_cons, List.append_assoc] at h
    obtain ⟨e1, e2⟩ := h1 a List.mem_cons_self b (h2 b List.mem_cons_self) _ _ h
    obtain ⟨e3, e4⟩ := flat_dec (fun s hs => h1 s (List.mem_cons_of_mem _ hs)) (fun s hs => h2 s (List.mem_cons_of_mem _ hs)) (by simpa using hl) e2
    exact ⟨by rw [e1, e3], e4⟩
theorem opt_dec {l l' : List ST} (h1 : ∀ s ∈ l, Dec s) (h2 : ∀ s ∈ l', NT s) (hl : l ≠ [] → l' ≠ [] → l.length = l'.length) {u v : List Nat} (h : optC (l.map code) ++ u = optC (l'.map code) ++ v) : l = l' ∧ u = v := by
  cases l with
  | nil => cases l' with
    | nil => exact ⟨rfl, by simpa [optC] using h⟩
    | cons b s => simp [optC] at h
  | cons a r => cases l' with
    | nil => simp [optC] at h
    | cons b s =>
      have h' : ((a :: r).map code).flatten ++ u = ((b :: s).map code).flatten ++ v := by simpa [optC] using h
      exact flat_dec h1 h2 (hl (by simp) (by simp)) h'
theorem it_dec : ∀ {l l' : List ST}, (∀ s ∈ l, Dec s) → (∀ s ∈ l', NT s) → ∀ {u v : List Nat}, itC (l.map code) ++ u = itC (l'.map code) ++ v → l = l' ∧ u = v
  | [], [], _, _, u, v, h => ⟨rfl, by simpa [itC] using h⟩
  | [], _ :: _, _, _, _, _, h => by simp [itC] at h
  | _ :: _, [], _, _, _, _, h => by simp [itC] at h
  | a :: r, b :: s, h1, h2, u, v, h => by
    simp only [List.map_cons, itC, List.cons_append, List.cons.injEq, true_and, List.append_assoc] at h
    obtain ⟨e1, e2⟩ := h1 a List.mem_cons_self b (h2 b List.mem_cons_self) _ _ h
    obtain ⟨e3, e4⟩ := it_dec (fun s hs => h1 s (List.mem_cons_of_mem _ hs)) (fun s hs => h2 s (List.mem_cons_of_mem _ hs)) e2
    exact ⟨by rw [e1, e3], e4⟩
theorem pr_dec : ∀ {ks ks' : List AK} {l l' : List ST}, ks.length = l.length → ks'.length = l'.length → (∀ s ∈ l, Dec s) → (∀ s ∈ l', NT s) → ∀ {u v : List Nat},
    itC (List.zipWith (fun k c => akCode (akOf k) ++ c) (ks.map kyOf) (l.map code)) ++ u = itC (List.zipWith (fun k c => akCode (akOf k) ++ c) (ks'.map kyOf) (l'.map code)) ++ v → ks = ks' ∧ l = l' ∧ u = v
  | [], [], [], [], _, _, _, _, u, v, h => ⟨rfl, rfl, by simpa [itC] using h⟩
  | [], k :: _, [], _ :: _, _, _, _, _, _, _, h => by simp [itC] at h
  | _ :: _, [], _ :: _, [], _, _, _, _, _, _, h => by simp [itC] at h
  | [], _, _ :: _, _, hl, _, _, _, _, _, _ => by simp at hl
  | _ :: _, _, [], _, hl, _, _, _, _, _, _ => by simp at hl
  | _, [], _, _ :: _, _, hl, _, _, _, _, _ => by simp at hl
  | _, _ :: _, _, [], _, hl, _, _, _, _, _ => by simp at hl
  | k :: ks, k' :: ks', a :: r, b :: s, hl, hl', h1, h2, u, v, h => by
    simp only [List.map_cons, List.zipWith_cons_cons, itC, List.cons_append, List.cons.injEq, true_and, List.append_assoc, akOf_kyOf] at h
    obtain ⟨e0, e0'⟩ := akCode_inj h
    obtain ⟨e1, e2⟩ := h1 a List.mem_cons_self b (h2 b List.mem_cons_self) _ _ e0'
    obtain ⟨e3, e4, e5⟩ := pr_dec (by simpa using hl) (by simpa using hl') (fun s hs => h1 s (List.mem_cons_of_mem _ hs)) (fun s hs => h2 s (List.mem_cons_of_mem _ hs)) e2
    exact ⟨by rw [e0, e3], by rw [e1, e4], e5⟩
theorem keyC_ne {kd : Int} (h : kd ≠ 6) (ks : List Ky) (cs : List (List Nat)) : keyC kd ks cs = cs := by unfold keyC; rw [if_neg h]
theorem keyC_6 (ks : List Ky) (cs : List (List Nat)) : keyC 6 ks cs = List.zipWith (fun k c => akCode (akOf k) ++ c) ks cs := by unfold keyC; rw [if_pos rfl]
theorem NT.kind {t : ST} (h : NT t) : 1 ≤ t.kind ∧ t.kind ≤ 8 := by cases h <;> simp [ST.kind]
theorem code_head (s : ST) : ∃ r, code s = s.kind.toNat :: r := by cases s; rw [code]; exact ⟨_, rfl⟩
theorem dec_all {s : ST} (h : NT s) : Dec s := by
  induction h with
  | null | bool | num | str =>
    intro t ht u v h
    cases ht <;> simp [code_eq, optC, itC, keyC] at h <;> exact ⟨rfl, h⟩
  | @arr kids more h1 h2 h3 ih ih2 =>
    intro t ht u v h
    cases ht with
    | @arr kids' more' h1' h2' h3' =>
      simp only [code_eq, keyC_ne (show (5 : Int) ≠ 6 by decide), List.cons_append, List.cons.injEq, true_and, List.append_assoc] at h
      obtain ⟨e1, e2⟩ := opt_dec ih2 h3' (fun a b => by have := List.length_pos_iff.2 a; have := List.length_pos_iff.2 b; omega) h
      obtain ⟨e3, e4⟩ := it_dec ih h1' e2
      exact ⟨by rw [e1, e3], e4⟩
    | _ => simp [code_eq] at h
  | @obj ks kids more hk so h1 h2 h3 ih ih2 =>
    intro t ht u v h
    cases ht with
    | @obj ks' kids' more' hk' so' h1' h2' h3' =>
      simp only [code_eq, keyC_6, List.cons_append, List.cons.injEq, true_and, List.append_assoc] at h
      obtain ⟨e1, e2⟩ := opt_dec ih2 h3' (fun a b => by have := List.length_pos_iff.2 a; have := List.length_pos_iff.2 b; omega) h
      obtain ⟨e3, e4, e5⟩ := pr_dec hk hk' ih h1' e2
      exact ⟨by rw [e1, e3, e4], e5⟩
    | _ => simp [code_eq] at h
  | @set x hx ih =>
    intro t ht u v h
    cases ht with
    | @set x' hx' =>
      simp only [code_eq, keyC_ne (show (7 : Int) ≠ 6 by decide), List.cons_append, List.cons.injEq, true_and, List.append_assoc, List.map_cons, List.map_nil, optC, itC, List.nil_append] at h
      obtain ⟨e3, e4⟩ := ih _ hx' _ _ h
      exact ⟨by rw [e3], by simpa using e4⟩
    | _ => simp [code_eq] at h
  | @any kids h1 ih =>
    intro t ht u v h
    cases ht with
    | @any kids' h1' =>
      simp only [code_eq, keyC_ne (show (8 : Int) ≠ 6 by decide), List.cons_append, List.cons.injEq, true_and, List.append_assoc, List.map_nil, optC, List.nil_append] at h
      obtain ⟨e3, e4⟩ := it_dec ih h1' h
      exact ⟨by rw [e3], e4⟩
    | _ => simp [code_eq] at h

/-- The order of two types. -/
def cmpT (s t : ST) : Int := lexc (code s) (code t)
theorem cmpT_self (s : ST) : cmpT s s = 0 := lexc_self _
theorem cmpT_zero {s t : ST} (h1 : NT s) (h2 : NT t) : cmpT s t = 0 ↔ s = t :=
  ⟨fun h => (dec_all h1 t h2 [] [] (by rw [lexc_eq h])).1, fun h => h ▸ cmpT_self s⟩
theorem code_app {s t : ST} (h1 : NT s) (h2 : NT t) (u v : List Nat) : lexc (code s ++ u) (code t ++ v) = if cmpT s t = 0 then lexc u v else cmpT s t := by
  by_cases h : s = t
  · subst h; rw [if_pos (cmpT_self s), lexc_app_same]
  · rw [if_neg (fun e => h ((cmpT_zero h1 h2).1 e)), lexc_apart (fun u v e => h (dec_all h1 t h2 u v e).1)]
    rfl
theorem cmpT_lt {s t : ST} (h : s.kind.toNat < t.kind.toNat) : cmpT s t = -1 := by
  obtain ⟨r, e⟩ := code_head s; obtain ⟨r', e'⟩ := code_head t
  unfold cmpT; rw [e, e', lexc_lt h]
theorem cmpT_gt {s t : ST} (h : t.kind.toNat < s.kind.toNat) : cmpT s t = 1 := by
  obtain ⟨r, e⟩ := code_head s; obtain ⟨r', e'⟩ := code_head t
  unfold cmpT; rw [e, e', lexc_gt h]
theorem cmpT_neg (s t : ST) : cmpT t s = - cmpT s t := lexc_neg _ _
theorem cmpT_tri (s t : ST) : cmpT s t = -1 ∨ cmpT s t = 0 ∨ cmpT s t = 1 := lexc_tri _ _

/-- slices.CompareFunc -/
def cmpL : List ST → List ST → Int
  | [], [] => 0
  | [], _ :: _ => -1
  | _ :: _, [] => 1
  | a :: r, b :: s => if cmpT a b = 0 then cmpL r s else cmpT a b
theorem itC_cmp : ∀ {l l' : List ST}, (∀ s ∈ l, NT s) → (∀ s ∈ l', NT s) → lexc (itC (l.map code)) (itC (l'.map code)) = cmpL l l'
  | [], [], _, _ => rfl
  | [], _ :: _, _, _ => by simp [itC, lexc, cmpL]
  | _ :: _, [], _, _ => by simp [itC, lexc, cmpL]
  | a :: r, b :: s, h1, h2 => by
    simp only [List.map_cons, itC, lexc_same, cmpL]
    rw [code_app (h1 a List.mem_cons_self) (h2 b List.mem_cons_self), itC_cmp (fun s hs => h1 s (List.mem_cons_of_mem _ hs)) (fun s hs => h2 s (List.mem_cons_of_mem _ hs))]
/-- The properties of two objects. -/
def cmpP : List AK → List ST → List AK → List ST → Int
  | k :: ks, a :: r, k' :: ks', b :: s => if k.cmp k' = 0 then (if cmpT a b = 0 then cmpP ks r ks' s else cmpT a b) else k.cmp k'
  | [], _, _ :: _, _ => -1
  | _ :: _, _, [], _ => 1
  | _, _, _, _ => 0
theorem prC_cmp : ∀ {ks ks' : List AK} {l l' : List ST}, ks.length = l.length → ks'.length = l'.length → (∀ s ∈ l, NT s) → (∀ s ∈ l', NT s) →
    lexc (itC (List.zipWith (fun k c => akCode (akOf k) ++ c) (ks.map kyOf) (l.map code))) (itC (List.zipWith (fun k c => akCode (akOf k) ++ c) (ks'.map kyOf) (l'.map code))) = cmpP ks l ks' l'
  | [], [], [], [], _, _, _, _ => rfl
  | [], k :: _, [], _ :: _, _, _, _, _ => by simp [itC, lexc, cmpP]
  | _ :: _, [], _ :: _, [], _, _, _, _ => by simp [itC, lexc, cmpP]
  | [], _, _ :: _, _, hl, _, _, _ => by simp at hl
  | _ :: _, _, [], _, hl, _, _, _ => by simp at hl
  | _, [], _, _ :: _, _, hl, _, _ => by simp at hl
  | _, _ :: _, _, [], _, hl, _, _ => by simp at hl
  | k :: ks, k' :: ks', a :: r, b :: s, hl, hl', h1, h2 => by
    simp only [List.map_cons, List.zipWith_cons_cons, itC, List.append_assoc, lexc_same, akOf_kyOf, cmpP]
    rw [ak_app, code_app (h1 a List.mem_cons_self) (h2 b List.mem_cons_self), prC_cmp (by simpa using hl) (by simpa using hl') (fun s hs => h1 s (List.mem_cons_of_mem _ hs)) (fun s hs => h2 s (List.mem_cons_of_mem _ hs))]

theorem cmpT_arr {kids more kids' more' : List ST} (h : NT (.mk 5 [] kids more)) (h' : NT (.mk 5 [] kids' more')) :
    cmpT (.mk 5 [] kids more) (.mk 5 [] kids' more') = match more, more' with
      | [], _ :: _ => -1
      | _ :: _, [] => 1
      | [], [] => cmpL kids kids'
      | d :: _, d' :: _ => if cmpT d d' = 0 then cmpL kids kids' else cmpT d d' := by
  obtain ⟨k1, k2, k3⟩ : (∀ k ∈ kids, NT k) ∧ more.length ≤ 1 ∧ ∀ k ∈ more, NT k := by cases h with | arr a b c => exact ⟨a, b, c⟩
  obtain ⟨k1', k2', k3'⟩ : (∀ k ∈ kids', NT k) ∧ more'.length ≤ 1 ∧ ∀ k ∈ more', NT k := by cases h' with | arr a b c => exact ⟨a, b, c⟩
  unfold cmpT
  simp only [code_eq, keyC_ne (show (5 : Int) ≠ 6 by decide), lexc_same]
  match more, more', k2, k2', k3, k3' with
  | [], [], _, _, _, _ => simp only [List.map_nil, optC, List.cons_append, List.nil_append, lexc_same]; exact itC_cmp k1 k1'
  | [], [d'], _, _, _, _ => simp [optC, lexc]
  | [d], [], _, _, _, _ => simp [optC, lexc]
  | [d], [d'], _, _, k3, k3' =>
    simp only [List.map_cons, List.map_nil, optC, List.flatten_cons, List.flatten_nil, List.append_nil, List.cons_append, lexc_same]
    rw [code_app (k3 d (by simp)) (k3' d' (by simp)), itC_cmp k1 k1']
    rfl
theorem cmpT_obj {ks ks' : List AK} {kids more kids' more' : List ST} (h : NT (.mk 6 (ks.map kyOf) kids more)) (h' : NT (.mk 6 (ks'.map kyOf) kids' more')) (hk : ks.length = kids.length) (hk' : ks'.length = kids'.length) :
    cmpT (.mk 6 (ks.map kyOf) kids more) (.mk 6 (ks'.map kyOf) kids' more') = match more, more' with
      | [], _ :: _ => -1
      | _ :: _, [] => 1
      | d :: e :: _, d' :: e' :: _ => if cmpT d d' = 0 then (if cmpT e e' = 0 then cmpP ks kids ks' kids' else cmpT e e') else cmpT d d'
      | _, _ => cmpP ks kids ks' kids' := by
  obtain ⟨k1, k2, k3⟩ : (∀ k ∈ kids, NT k) ∧ (more.length = 0 ∨ more.length = 2) ∧ ∀ k ∈ more, NT k := by
    generalize hK : ks.map kyOf = K at h
    cases h with | obj _ _ a b c => exact ⟨a, b, c⟩
  obtain ⟨k1', k2', k3'⟩ : (∀ k ∈ kids', NT k) ∧ (more'.length = 0 ∨ more'.length = 2) ∧ ∀ k ∈ more', NT k := by
    generalize hK : ks'.map kyOf = K at h'
    cases h' with | obj _ _ a b c => exact ⟨a, b, c⟩
  unfold cmpT
  simp only [code_eq, keyC_6, lexc_same]
  match more, more', k2, k2', k3, k3' with
  | [], [], _, _, _, _ => simp only [List.map_nil, optC, List.cons_append, List.nil_append, lexc_same]; exact prC_cmp hk hk' k1 k1'
  | [], _ :: _, _, _, _, _ => simp [optC, lexc]
  | _ :: _, [], _, _, _, _ => simp [optC, lexc]
  | [d, e], [d', e'], _, _, k3, k3' =>
    simp only [List.map_cons, List.map_nil, optC, List.flatten_cons, List.flatten_nil, List.append_nil, List.cons_append, lexc_same, List.append_assoc]
    rw [code_app (k3 d (by simp)) (k3' d' (by simp)), code_app (k3 e (by simp)) (k3' e' (by simp)), prC_cmp hk hk' k1 k1']
    rfl
  | [_], [_], h, _, _, _ => simp at h
  | [_], _ :: _ :: _, h, _, _, _ => simp at h
  | _ :: _ :: _ :: _, _ :: _, h, _, _, _ => simp at h
  | [_, _], [_], _, h, _, _ => simp at h
  | [_, _], _ :: _ :: _ :: _, _, h, _, _ => simp at h
theorem cmpT_set {s t : ST} (h : NT s) (h' : NT t) : cmpT (.mk 7 [] [s] []) (.mk 7 [] [t] []) = cmpT s t := by
  have e : cmpT (.mk 7 [] [s] []) (.mk 7 [] [t] []) = lexc (code s ++ [0]) (code t ++ [0]) := by
    unfold cmpT
    simp only [code_eq, keyC_ne (show (7 : Int) ≠ 6 by decide), lexc_same, List.map_nil, List.map_cons, optC, itC, List.cons_append, List.nil_append]
  rw [e, code_app h h']
  by_cases h0 : cmpT s t = 0
  · rw [if_pos h0, h0]; rfl
  · rw [if_neg h0]
theorem cmpT_any {kids kids' : List ST} (h : ∀ k ∈ kids, NT k) (h' : ∀ k ∈ kids', NT k) : cmpT (.mk 8 [] kids []) (.mk 8 [] kids' []) = cmpL kids kids' := by
  unfold cmpT
  simp only [code_eq, keyC_ne (show (8 : Int) ≠ 6 by decide), lexc_same, List.map_nil, optC, List.cons_append, List.nil_append]
  exact itC_cmp h h'
end Go.Proofs.YtaglgokeejjagaaGreat
