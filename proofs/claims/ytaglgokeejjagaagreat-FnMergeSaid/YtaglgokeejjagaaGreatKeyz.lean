/- The order of the keys of properties. -/
import Derived.Test.YtaglgokeejjagaaGreatOwn
import Derived.Test.YtaglgokeejjagaaGreatValW
import Derived.Test.YtaglgokeejjagaaGreatSortT
import Derived.BigQuiet
namespace Go.Proofs.YtaglgokeejjagaaGreat
set_option linter.unusedVariables false
set_option linter.unusedSimpArgs false
open Go.RowKit Go.Sort

/-- A key of a property: none, a truth value, or a text. -/
inductive AK where
  | none
  | bool (x : Bool)
  | text (t : ByteArray)
instance : Inhabited AK := ⟨.none⟩
def AK.v : AK → Value
  | .none => .nilIface
  | .bool x => .iface 4 (.bool x)
  | .text t => .iface 9 (.string t)
def AK.rank : AK → Int
  | .none => 0
  | .bool _ => 1
  | .text _ => 3
def AK.cmp : AK → AK → Int
  | .bool x, .bool y => if x = y then 0 else if x = true then 1 else -1
  | .text x, .text y => if (x.toList == y.toList) = true then 0 else if Op.bytesLess x.toList y.toList = true then -1 else 1
  | a, b => if a.rank < b.rank then -1 else if b.rank < a.rank then 1 else 0

theorem AK.v_inj {a b : AK} (h : a.v = b.v) : a = b := by
  cases a <;> cases b <;> simp_all [AK.v]

def CmpP (n : Int) (w : World) (e : Ending) (w' : World) : Prop := e = .returned (.int .i64 n) ∧ w' = w
set_option maxHeartbeats 4000000 in
set_option maxRecDepth 100000 in
theorem zzCompare_any (a b : AK) (w : World) : Calls Tryz.prog 92 #[a.v, b.v] w (CmpP (a.cmp b) w) := by
  cases a with
  | none =>
    cases b
    all_goals
      simp only [AK.v]
      go_enter Tryz.func92, Tryz.ntmps92
      go_wp2
      go_ret
      exact ⟨rfl, rfl⟩
  | bool x =>
    cases b with
    | bool y =>
      cases x <;> cases y
      all_goals
        simp only [AK.v]
        go_enter Tryz.func92, Tryz.ntmps92
        go_wp2
        go_ret
        exact ⟨rfl, rfl⟩
    | _ =>
      simp only [AK.v]
      go_enter Tryz.func92, Tryz.ntmps92
      go_wp2
      go_ret
      exact ⟨rfl, rfl⟩
  | text x =>
    cases b with
    | text y =>
      simp only [AK.v, AK.cmp]
      by_cases h : (x.toList == y.toList) = true
      · have HH := Lib.hid h
        rw [if_pos h]
        go_enter Tryz.func92, Tryz.ntmps92
        go_wp2
        go_ret
        exact ⟨rfl, rfl⟩
      · rw [if_neg h]
        have h' : (x.toList == y.toList) = false := by simpa using h
        clear h
        by_cases h2 : Op.bytesLess x.toList y.toList = true
        · rw [if_pos h2]
          go_enter Tryz.func92, Tryz.ntmps92
          go_wp2
          go_ret
          exact ⟨rfl, rfl⟩
        · rw [if_neg h2]
          have h2' : Op.bytesLess x.toList y.toList = false := by simpa using h2
          clear h2
          go_enter Tryz.func92, Tryz.ntmps92
          go_wp2
          go_ret
          exact ⟨rfl, rfl⟩
    | _ =>
      simp only [AK.v]
      go_enter Tryz.func92, Tryz.ntmps92
      go_wp2
      go_ret
      exact ⟨rfl, rfl⟩

/-- One key stands before another one. -/
def AK.lt (a b : AK) : Prop := a.cmp b < 0
def AK.code : AK → List UInt8
  | .none => [0]
  | .bool x => if x = true then [2] else [1]
  | .text t => 3 :: t.toList
theorem AK.cmp_tt (x y : ByteArray) : (AK.text x).cmp (.text y) = if (x.toList == y.toList) = true then 0 else if Op.bytesLess x.toList y.toList = true then -1 else 1 := rfl
theorem AK.code_inj {a b : AK} (h : a.code = b.code) : a = b := by
  cases a with
  | none => cases b with
    | none => rfl
    | bool y => cases y <;> simp [AK.code] at h
    | text y => simp [AK.code] at h
  | bool x => cases b with
    | none => cases x <;> simp [AK.code] at h
    | bool y => cases x <;> cases y <;> simp [AK.code] at h <;> rfl
    | text y => cases x <;> simp [AK.code] at h
  | text x => cases b with
    | none => simp [AK.code] at h
    | bool y => cases y <;> simp [AK.code] at h
    | text y =>
      simp only [AK.code, List.cons.injEq, true_and] at h
      rw [Lib.toList_data, Lib.toList_data] at h
      cases x; cases y
      simpa using h
theorem AK.lt_code {a b : AK} : AK.lt a b ↔ a.code < b.code := by
  have hnil : ∀ (l : List UInt8), ¬ l < [] := fun l => List.not_lt_nil l
  cases a with
  | none => cases b with
    | none => simp only [AK.lt, AK.cmp, AK.rank, AK.code, List.cons_lt_cons_iff, hnil]; decide
    | bool y => cases y <;> simp only [AK.lt, AK.cmp, AK.rank, AK.code, List.cons_lt_cons_iff, hnil] <;> decide
    | text y => exact ⟨fun _ => List.cons_lt_cons_iff.2 (.inl (by decide)), fun _ => show (-1 : Int) < 0 by decide⟩
  | bool x => cases b with
    | none => cases x <;> simp only [AK.lt, AK.cmp, AK.rank, AK.code, List.cons_lt_cons_iff, hnil] <;> decide
    | bool y => cases x <;> cases y <;> simp only [AK.lt, AK.cmp, AK.rank, AK.code, List.cons_lt_cons_iff, hnil] <;> decide
    | text y => cases x <;> exact ⟨fun _ => List.cons_lt_cons_iff.2 (.inl (by decide)), fun _ => show (-1 : Int) < 0 by decide⟩
  | text x => cases b with
    | none => exact ⟨fun h => absurd (show (1 : Int) < 0 from h) (by decide), fun h => (List.cons_lt_cons_iff.1 h).elim (fun h => absurd h (by decide)) (fun h => absurd h.1 (by decide))⟩
    | bool y => cases y <;> exact ⟨fun h => absurd (show (1 : Int) < 0 from h) (by decide), fun h => (List.cons_lt_cons_iff.1 h).elim (fun h => absurd h (by decide)) (fun h => absurd h.1 (by decide))⟩
    | text y =>
      unfold AK.lt
      rw [AK.cmp_tt, bytesLess_eq]
      simp only [AK.code, List.cons_lt_cons_iff, true_and]
      by_cases h : x.toList = y.toList
      · simp [h]
      · by_cases h2 : x.toList < y.toList <;> simp [h, h2]
theorem AK.cmp_zero {a b : AK} : a.cmp b = 0 ↔ a = b := by
  cases a with
  | none => cases b with
    | none => simp [AK.cmp]
    | bool y => simp [AK.cmp, AK.rank]
    | text y => simp [AK.cmp, AK.rank]
  | bool x => cases b with
    | none => simp [AK.cmp, AK.rank]
    | bool y => cases x <;> cases y <;> simp [AK.cmp]
    | text y => simp [AK.cmp, AK.rank]
  | text x => cases b with
    | none => simp [AK.cmp, AK.rank]
    | bool y => simp [AK.cmp, AK.rank]
    | text y =>
      rw [AK.cmp_tt]
      by_cases h : x.toList = y.toList
      · have : AK.text x = AK.text y := AK.code_inj (by simp [AK.code, h])
        simp [h, this]
      · have hne : AK.text x ≠ AK.text y := fun e => h (by cases e; rfl)
        by_cases h2 : Op.bytesLess x.toList y.toList = true <;> simp [h, h2, hne]
theorem AK.lt_irrefl (a : AK) : ¬ AK.lt a a := fun h => List.lt_irrefl _ (AK.lt_code.1 h)
theorem AK.lt_trans {a b c : AK} (h : AK.lt a b) (k : AK.lt b c) : AK.lt a c := AK.lt_code.2 (List.lt_trans (AK.lt_code.1 h) (AK.lt_code.1 k))
theorem AK.lt_tri (a b : AK) : AK.lt a b ∨ a = b ∨ AK.lt b a := by
  rw [AK.lt_code, AK.lt_code]
  by_cases h : a.code < b.code
  · exact .inl h
  · by_cases h2 : b.code < a.code
    · exact .inr (.inr h2)
    · exact .inr (.inl (AK.code_inj (List.le_antisymm (List.not_lt.1 h2) (List.not_lt.1 h))))
theorem AK.ltOf_iff {α : Type} (f : α → AK) (x y : α) : ltOf (fun x y => AK.cmp (f x) (f y)) x y = true ↔ AK.lt (f x) (f y) := by unfold ltOf AK.lt; simp
theorem AK.ltOf_not {α : Type} (f : α → AK) (x y : α) : ltOf (fun x y => AK.cmp (f x) (f y)) x y = false ↔ ¬ AK.lt (f x) (f y) := by unfold ltOf AK.lt; simp
theorem AK.swo {α : Type} (f : α → AK) : SWO (ltOf (fun x y => AK.cmp (f x) (f y))) where
  irrefl x := (AK.ltOf_not f x x).2 (AK.lt_irrefl _)
  trans x y z h k := (AK.ltOf_iff f x z).2 (AK.lt_trans ((AK.ltOf_iff f x y).1 h) ((AK.ltOf_iff f y z).1 k))
  ntrans x y z h k := (AK.ltOf_not f x z).2 fun h3 => by
    have h1 := (AK.ltOf_not f x y).1 h
    have h2 := (AK.ltOf_not f y z).1 k
    rw [AK.lt_code] at h1 h2 h3
    exact List.not_lt.2 (List.le_trans (List.not_lt.1 h2) (List.not_lt.1 h1)) h3

set_option maxHeartbeats 4000000 in
set_option maxRecDepth 100000 in
/-- What 'cmpSpKey' reads. -/
theorem cmpSpKey_any (a b : AK) (p q : Nat) (w : World) (ha : w.cell? ⟨p, 0, none⟩ = some a.v) (hb : w.cell? ⟨q, 0, none⟩ = some b.v) :
    Calls Tryz.prog 109 #[.pointer (some ⟨p, 0, none⟩), .pointer (some ⟨q, 0, none⟩)] w (fun e w' => e = .returned (.int .i64 (a.cmp b)) ∧ Gr w w') := by
  have HC := Lib.hid (fun (W' : World) => show Calls Tryz.prog 92 #[a.v, b.v] W' (fun e w' => e = .returned (.int .i64 (a.cmp b)) ∧ Gr W' w') from (zzCompare_any a b W').mono fun e w' h => ⟨h.1, h.2 ▸ Gr.refl _⟩)
  have hmix : Tryz.prog.follows .mixedOrders = true := by kernel_rfl
  have A0 := fun n os => (gr_grow w n os).cell ha
  have B0 := fun n os => (gr_grow w n os).cell hb
  clear ha hb
  generalize a.cmp b = n at HC ⊢
  generalize a.v = x at *
  generalize b.v = y at *
  go_enter Tryz.func109, Tryz.ntmps109
  go_wp2
  refine wp_region_quiet_grown hmix (by kernel_rfl) ?_
  repeat (go_big_quiet_step ((go_at_call 92; with_reducible exact quiet_gr (v := .int .i64 n) (HC.out _))))
  refine wpQuiet_nil ?_
  intro _ hw'
  obtain ⟨⟨nq, osq⟩, hw''⟩ := hw'
  subst hw''
  go_wp2
  go_ret
  exact ⟨rfl, gr_grow _ _ _⟩
end Go.Proofs.YtaglgokeejjagaaGreat
