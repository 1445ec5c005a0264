/- How a value lies in memory as the package takes it. -/
import Derived.Test.YtaglgokeejjagaaGreatOwn
import Derived.Test.YtaglgokeejjagaaGreatPure1
import Derived.Test.YtaglgokeejjagaaGreatPrV
import Derived.Maps.RangeWalk
import Derived.Maps.Views
namespace Go.Proofs.YtaglgokeejjagaaGreat
set_option linter.unusedVariables false
set_option linter.unusedSimpArgs false
open Go.RowKit Go.Sort Go.Maps

abbrev Hp := Nat → Option Obj
def HLe (h h' : Hp) : Prop := ∀ k o, h k = some o → h' k = some o
theorem HLe.refl (h : Hp) : HLe h h := fun _ _ e => e
theorem HLe.trans {a b c : Hp} (h : HLe a b) (k : HLe b c) : HLe a c := fun _ _ e => k _ _ (h _ _ e)
/-- The blocks from B on, but for one. -/
def vwb (B : Nat) (w : World) (r : Option Nat) : Hp := fun k => if B ≤ k ∧ some k ≠ r then w.heap[k]? else none
theorem vwb_none {B : Nat} {w : World} {r : Option Nat} : HLe (vwb B w r) (vwb B w none) := fun k o h => by
  unfold vwb at h ⊢
  by_cases hc : B ≤ k ∧ some k ≠ r
  · rw [if_pos hc] at h; rw [if_pos ⟨hc.1, by simp⟩]; exact h
  · rw [if_neg hc] at h; cases h
theorem vwb_heap {B : Nat} {w : World} {k : Nat} {o : Obj} (h : vwb B w none k = some o) : w.heap[k]? = some o ∧ B ≤ k := by
  unfold vwb at h
  by_cases hc : B ≤ k ∧ some k ≠ none
  · rw [if_pos hc] at h; exact ⟨h, hc.1⟩
  · rw [if_neg hc] at h; cases h
theorem vwb_step {B B' : Nat} {w w' : World} {r r' : Option Nat} (hB : B' ≤ B) (hb : ∀ k, B ≤ k → k < w.heap.size → some k ≠ r → w'.heap[k]? = w.heap[k]?)
    (hr : ∀ k, r' = some k → r = some k ∨ k < B ∨ w.heap.size ≤ k) : HLe (vwb B w r) (vwb B' w' r') := fun k o h => by
  unfold vwb at h ⊢
  by_cases hc : B ≤ k ∧ some k ≠ r
  · rw [if_pos hc] at h
    have hk : k < w.heap.size := (Array.getElem?_eq_some_iff.1 h).1
    rw [if_pos ⟨Nat.le_trans hB hc.1, fun e => by
      rcases hr k e.symm with h1 | h1 | h1
      · exact hc.2 h1.symm
      · omega
      · omega⟩, hb k hc.1 hk hc.2]
    exact h
  · rw [if_neg hc] at h; cases h
theorem vwb_bl {B : Nat} {w w' : World} {r : Option Nat} (h : Below w.heap.size w w') : HLe (vwb B w r) (vwb B w' r) := vwb_step (Nat.le_refl _) (fun k _ h2 _ => h.block k h2) (fun k e => .inl e)

/-- A row of values. -/
def HRow (h : Hp) (a : Option Addr) (n : Nat) (xs : List Value) : Prop := xs.length = n ∧ (0 < n → ∃ b c T, a = some ⟨b, 0, none⟩ ∧ h b = some (.cells c T (0, 0)) ∧ ∀ i, i < n → c[i]? = xs[i]?)
theorem HRow.mono {h h' : Hp} {a : Option Addr} {n : Nat} {xs : List Value} (r : HRow h a n xs) (hh : HLe h h') : HRow h' a n xs := ⟨r.1, fun hn => by
  obtain ⟨b, c, T, e, hb, hc⟩ := r.2 hn; exact ⟨b, c, T, e, hh _ _ hb, hc⟩⟩

/-- An element of a map reads as itself. -/
def RV (v : Value) : Option (DataW Value × List MemPlace) := some (.held v, [])
theorem law9 : Keyed Tryz.prog 9 := string_keyed Tryz.underlying9
def kL (s : ByteArray) : Lit := .string s.data.toList
theorem kL_inj {a b : ByteArray} (h : kL a = kL b) : a = b := by
  unfold kL at h
  cases a; cases b
  simpa using h
theorem key9 {s : ByteArray} (h : s.size ≤ maxLen) : keyOf Tryz.prog 9 (.string s) = some (kL s) := WideMaps.keyOf_string_mk Tryz.underlying9 h
theorem kL_key (s : ByteArray) : WideAt.IsKeyLit (kL s) := by first | exact trivial | simp [kL, WideAt.IsKeyLit]

/-- The map has just these keys, with these elements. -/
def MapIs (D : DataW Value) (ks : List ByteArray) (xs : List Value) : Prop :=
  (∀ i (h : i < ks.length) (h2 : i < xs.length), ∀ z, D.atKey (kL ks[i]) z = .held xs[i]) ∧ (∀ kl, Maps.has D kl = true → ∃ i, ∃ (h : i < ks.length), kl = kL ks[i]) ∧ IsMap D ∧ xs.length = ks.length
theorem MapIs.nil : MapIs (.map []) [] [] := ⟨fun i h => absurd h (Nat.not_lt_zero _), fun kl h => by simp [Maps.has] at h, ⟨_, rfl⟩, rfl⟩
theorem MapIs.put {D : DataW Value} {ks : List ByteArray} {xs : List Value} (h : MapIs D ks xs) {k : ByteArray} {x : Value} (hn : ∀ i (h : i < ks.length), ks[i] ≠ k) : MapIs (D.put (kL k) (.held x)) (ks ++ [k]) (xs ++ [x]) := by
  obtain ⟨h1, h2, h3, h4⟩ := h
  refine ⟨fun i hi hi2 z => ?_, fun kl hk => ?_, h3.put _ _, by simp [h4]⟩
  · by_cases hl : i < ks.length
    · have e1 : (ks ++ [k])[i] = ks[i] := List.getElem_append_left hl
      have e2 : (xs ++ [x])[i] = xs[i]'(by omega) := List.getElem_append_left (by omega)
      rw [e1, e2, atKey_put_other (fun e => hn i hl (kL_inj e))]
      exact h1 i hl (by omega) z
    · have hi' : i = ks.length := by simp at hi; omega
      subst hi'
      have e1 : (ks ++ [k])[ks.length] = k := by simp
      have e2 : (xs ++ [x])[ks.length] = x := by simp [← h4]
      rw [e1, e2, atKey_put_same h3 (kL_key k)]
  · by_cases e : kl = kL k
    · exact ⟨ks.length, by simp, by rw [e]; simp⟩
    · rw [has_put_other e] at hk
      obtain ⟨i, hi, e2⟩ := h2 kl hk
      exact ⟨i, by simp; omega, by rw [List.getElem_append_left hi]; exact e2⟩

def MapH (h : Hp) (b : Nat) (ks : List ByteArray) (xs : List Value) : Prop :=
  ∃ es clock D, h b = some (.map es clock) ∧ WideElems.Fit Tryz.prog 9 RV es clock ∧ es.size ≤ 5000 ∧ D = .map ((es.toList.map (WideElems.rg Tryz.prog 9 RV)).foldr DataW.insert []) ∧ MapIs D ks xs
theorem MapH.mono {h h' : Hp} {b : Nat} {ks : List ByteArray} {xs : List Value} (r : MapH h b ks xs) (hh : HLe h h') : MapH h' b ks xs := by
  obtain ⟨es, cl, D, hb, r⟩ := r
  exact ⟨es, cl, D, hh _ _ hb, r⟩
theorem MapH.of {w : World} {b n B : Nat} {D : DataW Value} {ks : List ByteArray} {xs : List Value} (h : w.ownsMap Tryz.prog 9 RV b n D) (hn : n ≤ 5000) (hm : MapIs D ks xs) (hB : B ≤ b) : MapH (vwb B w none) b ks xs := by
  obtain ⟨es, cl, hb, F, hs, hD⟩ := h
  exact ⟨es, cl, D, by unfold vwb; rw [if_pos ⟨hB, by simp⟩]; exact hb, F, Nat.le_trans hs hn, hD, hm⟩
theorem MapH.owns {w : World} {b B : Nat} {ks : List ByteArray} {xs : List Value} (h : MapH (vwb B w none) b ks xs) : ∃ D, w.ownsMap Tryz.prog 9 RV b 5000 D ∧ MapIs D ks xs := by
  obtain ⟨es, cl, D, hb, F, hs, hD, hm⟩ := h
  exact ⟨D, ⟨es, cl, (vwb_heap hb).1, F, hs, hD⟩, hm⟩

/-- How a value lies in memory, as 'any'. -/
inductive RA (h : Hp) : Value → Vl → Prop
  | null {t : Vl} (k : t.kind = 0) : RA h .nilIface t
  | ff {t : Vl} (k : t.kind = 1) : RA h (.iface 4 (.bool false)) t
  | tt {t : Vl} (k : t.kind = 2) : RA h (.iface 4 (.bool true)) t
  | num {t : Vl} (k : t.kind = 3) : RA h (.iface 119 (.string t.text)) t
  | str {t : Vl} (k : t.kind = 4) : RA h (.iface 9 (.string t.text)) t
  | arr {t : Vl} {a : Option Addr} {c : Nat} {xs : List Value} (k : t.kind = 5) (lk : lenOk t.kids.length c) (r : HRow h a t.kids.length xs) (e : ∀ i (h1 : i < xs.length) (h2 : i < t.kids.length), RA h xs[i] t.kids[i]) : RA h (.iface 147 (.slice a t.kids.length c)) t
  | obj {t : Vl} {b : Nat} {xs : List Value} (k : t.kind = 6) (hm : MapH h b t.keys xs) (hl : xs.length = t.kids.length) (e : ∀ i (h1 : i < xs.length) (h2 : i < t.kids.length), RA h xs[i] t.kids[i]) : RA h (.iface 148 (.map (some b))) t
theorem RA.mono {h h' : Hp} (hh : HLe h h') {v : Value} {t : Vl} (r : RA h v t) : RA h' v t := by
  induction r with
  | null k => exact .null k
  | ff k => exact .ff k
  | tt k => exact .tt k
  | num k => exact .num k
  | str k => exact .str k
  | arr k lk r e ih => exact .arr k lk (r.mono hh) ih
  | obj k hm hl e ih => exact .obj k (hm.mono hh) hl ih

/-- A row of values that the call appends to. -/
def EV (_ : Mem) (c : List Value) (v : Value) : Prop := c = [v]
theorem em_EV : EM EV := fun _ _ _ _ _ h => h
def m0 : Mem := fun _ => none
theorem lo_m0 (B : Nat) : Lo m0 B := fun a x h => by cases h
theorem Own.hrow {m : Mem} {e B B' : Nat} {w : World} {v : Value} {l : List Value} (h : Own EV m e 1 B w v l) (hB : B' ≤ B) : ∃ a c, v = .slice a l.length c ∧ lenOk l.length c ∧ HRow (vwb B' w none) a l.length l := by
  obtain ⟨xs, ho, hx⟩ := h
  have hxl : xs.length = l.length := by have := ho.1; omega
  have hxe : xs = l := by
    refine List.ext_getElem hxl fun i h1 h2 => ?_
    have := hx i h2
    unfold EV at this
    rw [Nat.mul_one] at this
    have e : ((xs.drop i).take 1)[0]? = some l[i] := by rw [this]; rfl
    rw [List.getElem?_take_of_lt (by decide), List.getElem?_drop, Nat.add_zero, List.getElem?_eq_getElem h1] at e
    exact Option.some.inj e
  subst hxe
  rcases ho.2 with ⟨rfl, h0⟩ | ⟨g, cap, cur, rfl, hb, hg, h1, h2, h3, h4⟩
  · exact ⟨none, 0, by rw [h0], ⟨by omega, by decide⟩, rfl, fun hn => by omega⟩
  · refine ⟨_, _, rfl, ⟨h1, Nat.le_trans h2 (by simp [maxLen])⟩, rfl, fun hn => ⟨g, cur, e, rfl, ?_, fun i hi => ?_⟩⟩
    · unfold vwb; rw [if_pos ⟨by omega, by simp⟩]; exact hg
    · have e1 : (cur.toList.take (xs.length * 1))[i]? = xs[i]? := by rw [h4]
      rw [List.getElem?_take_of_lt (by omega)] at e1
      rw [← e1]; simp
end Go.Proofs.YtaglgokeejjagaaGreat
