/- An object without one of its properties is none of its type: plain Lean. -/
import Derived.Test.YtaglgokeejjagaaGreatInTy
namespace Go.Proofs.YtaglgokeejjagaaGreat
set_option linter.unusedVariables false
set_option linter.unusedSimpArgs false

def dropAt {α : Type} (l : List α) (n : Nat) : List α := l.take n ++ l.drop (n + 1)
theorem dropAt_len {α : Type} {l : List α} {n : Nat} (h : n < l.length) : (dropAt l n).length + 1 = l.length := by simp [dropAt]; omega
theorem dropAt_mem {α : Type} {l : List α} {n : Nat} {x : α} (h : x ∈ dropAt l n) : x ∈ l := by
  rcases List.mem_append.1 h with h | h
  · exact List.mem_of_mem_take h
  · exact List.mem_of_mem_drop h
def missV (t : Vl) (n : Nat) : Vl := .mk 6 ⟨#[]⟩ (dropAt t.keys n) (dropAt t.kids n)
theorem bd_miss {t : Vl} (h : BdV t) (n : Nat) : BdV (missV t n) := by
  obtain ⟨h1, h2, h3, h4, h5⟩ := h.out
  have l1 : (dropAt t.keys n).length ≤ t.keys.length := by simp [dropAt]; omega
  have l2 : (dropAt t.kids n).length ≤ t.kids.length := by simp [dropAt]; omega
  exact .mk (by decide) (by omega) (fun k hk => h3 k (dropAt_mem hk)) (by omega) (fun k hk => h5 k (dropAt_mem hk))
theorem wv_miss {t : Vl} (h : PV t) (k : t.kind = 6) (n : Nat) : Wv (valOf (missV t n)) := by
  unfold valOf
  by_cases hw : WV (missV t n) ≤ 5000
  · rw [if_pos hw]
    refine .mk ?_ (fun x hx => ?_)
    · have := h.len k
      simp [dropAt, this]
    · have hm := dropAt_mem hx
      obtain ⟨i, hi, rfl⟩ := List.getElem_of_mem hm
      exact wv_of _ (h.kid hi)
  · rw [if_neg hw]; exact .mk (Nat.le_refl _) (by simp)
theorem not_in_miss {t : Vl} (h : PV t) (k : t.kind = 6) {n : Nat} (hn : n < t.keys.length) : ¬ InP (tyOf t) (valOf (missV t n)) := by
  have he : tyOf t = .mk 6 (t.keys.map fun k => ⟨4, k⟩) (t.kids.map tyOf) [] := by rw [tyOf_eq, if_neg (by omega), if_neg (by omega), if_neg (by omega), if_neg (by omega), if_neg (by omega)]
  rw [he]
  intro hin
  obtain ⟨h1, h2⟩ := (inP_obj rfl).1 hin
  unfold valOf at h1 h2
  by_cases hw : WV (missV t n) ≤ 5000
  · rw [if_pos hw] at h2
    have hh := h2.1
    change hits (t.keys.map fun k => ⟨4, k⟩) (dropAt t.keys n) = (t.keys.map fun k => (⟨4, k⟩ : Ky)).length at hh
    have hle : hits (t.keys.map fun k => ⟨4, k⟩) (dropAt t.keys n) ≤ (dropAt t.keys n).length := List.countP_le_length
    have := dropAt_len hn
    rw [List.length_map] at hh
    omega
  · rw [if_neg hw] at h1
    simp [badV, Vl.kind] at h1
end Go.Proofs.YtaglgokeejjagaaGreat
