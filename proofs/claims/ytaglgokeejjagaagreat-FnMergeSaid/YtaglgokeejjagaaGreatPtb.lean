/- 'proper' of the laws at one type. -/
import Derived.Test.YtaglgokeejjagaaGreatPrp
import Derived.Test.YtaglgokeejjagaaGreatObjQ
import Derived.Test.YtaglgokeejjagaaGreatSiz
import Derived.Test.YtaglgokeejjagaaGreatInTy
namespace Go.Proofs.YtaglgokeejjagaaGreat
set_option linter.unusedVariables false
set_option linter.unusedSimpArgs false
open Go.RowKit Go.Sort Go.Proofs.YtaglgokeejjagaaGreatW.PrintLast

theorem ky_ak {k : Ky} (h : KyOk k) : kyOf (akOf k) = k := by
  obtain ⟨kd, tx⟩ := k
  obtain ⟨h1, h2⟩ := h
  simp only at h1 h2
  have hz : kd = 4 ∨ tx = ⟨#[]⟩ := h2.imp id fun h => by
    have e0 : (⟨#[]⟩ : ByteArray).toList = [] := by rw [ByteArray.toList, ByteArray.toList.loop]; rfl
    exact AK.text.inj (AK.code_inj (by simp [AK.code, h, e0]))
  unfold akOf
  rcases h1 with rfl | rfl | rfl | rfl
  · obtain rfl := hz.resolve_left (by decide); rfl
  · obtain rfl := hz.resolve_left (by decide); rfl
  · obtain rfl := hz.resolve_left (by decide); rfl
  · rfl
theorem pt_bt {t : ST} (h : PT t) : BT t := by
  induction h with
  | @mk t hs hk ho hd hc ih =>
    obtain ⟨kd, ks, kids, more⟩ := t
    simp only [ShP, ST.kind, ST.keys, ST.kids, ST.more] at hs hk ho hd hc ih
    rcases hs with ⟨h1, h4, h5, h6⟩ | ⟨rfl, h5⟩ | ⟨rfl, h5, h6⟩ | ⟨rfl, h5, h6⟩ | ⟨rfl, h5, h6⟩
    · obtain rfl := List.length_eq_zero_iff.1 h5
      obtain rfl := List.length_eq_zero_iff.1 h6
      obtain rfl := List.length_eq_zero_iff.1 (hk.resolve_left (by omega))
      have : kd = 1 ∨ kd = 2 ∨ kd = 3 ∨ kd = 4 := by omega
      rcases this with rfl | rfl | rfl | rfl
      · exact .null
      · exact .bool
      · exact .num
      · exact .str
    · obtain rfl := List.length_eq_zero_iff.1 (hk.resolve_left (by decide))
      exact .arr (fun k hk => ih k (.inl hk)) h5 (fun k hk => ih k (.inr hk))
    · have e : (ks.map akOf).map kyOf = ks := by
        rw [List.map_map]
        refine (List.map_congr_left (g := id) (fun k hk => ?_)).trans (List.map_id _)
        obtain ⟨i, hi, rfl⟩ := List.getElem_of_mem hk
        exact ky_ak (ho i hi)
      rw [← e]
      refine .obj (by simpa using h5) ?_ (fun k hk => ih k (.inl hk)) h6 (fun k hk => ih k (.inr hk))
      rw [List.Nodup, List.pairwise_iff_getElem]
      intro i j hi hj hij he
      rw [List.getElem_map, List.getElem_map] at he
      rw [List.length_map] at hi hj
      have := congrArg kyOf he
      rw [ky_ak (ho i hi), ky_ak (ho j hj)] at this
      exact hd j hj i hij this
    · obtain rfl := List.length_eq_zero_iff.1 h6
      obtain rfl := List.length_eq_zero_iff.1 (hk.resolve_left (by decide))
      obtain ⟨t, rfl⟩ := List.length_eq_one_iff.1 h5
      exact .set (ih t (.inl (by simp)))
    · obtain rfl := List.length_eq_zero_iff.1 h6
      obtain rfl := List.length_eq_zero_iff.1 (hk.resolve_left (by decide))
      exact .any (fun k hk => ih k (.inl hk))
theorem pt_na {t : ST} (h : PT t) : Na t := by
  induction h with
  | @mk t hs hk ho hd hc ih =>
    obtain ⟨kd, ks, kids, more⟩ := t
    simp only [ShP, ST.kind, ST.keys, ST.kids, ST.more] at hs hk ho hd hc ih
    refine .mk (fun h8 => ?_) (fun k hk => ih k (.inl hk)) (fun k hk => ih k (.inr hk))
    rcases hs with h | h | h | h | h
    · omega
    · omega
    · omega
    · omega
    · exact h.2.1
theorem PT.kind {t : ST} (h : PT t) : 1 ≤ t.kind ∧ t.kind ≤ 8 := by
  cases h with | mk hs _ _ _ _ => rcases hs with h | h | h | h | h <;> omega
theorem pt_kindOf {t : IT} (h : PT (kindOf t)) : WI t ≤ 5000 ∧ PT (toS t) := by
  unfold kindOf at h
  split at h
  · exact ⟨by assumption, h⟩
  · exact absurd h.kind.1 (by decide)
theorem ws_kindOf (t : IT) : WS (kindOf t) ≤ 1000000 := by
  unfold kindOf
  split
  · rw [WS_toS]; omega
  · simp [badS, WS]
end Go.Proofs.YtaglgokeejjagaaGreat
