/- What 'Select' gives at an array and a number, and at an object and the name of a property: plain laws. -/
import Derived.Test.YtaglgokeejjagaaGreatISel
import Derived.Test.YtaglgokeejjagaaGreatICmp
import Derived.Test.YtaglgokeejjagaaGreatPtb
namespace Go.Proofs.YtaglgokeejjagaaGreat
set_option linter.unusedVariables false
set_option linter.unusedSimpArgs false
open Go.RowKit Go.Sort

theorem selC_of {s : ST} {x : Value} {o : Option ST} (h : ∀ (m : Mem) (r : Value) (w : World), RT m r s → MLe m (ucell w) → Calls Tryz.prog 45 #[r, x] w (OsQ m o w)) : SelC s x (· = o) := fun m r w h1 h2 =>
  (h m r w h1 h2).mono fun e w' ⟨y, e1, e2, hg⟩ => ⟨y, o, rfl, e1, e2.mono (fr_old (fun a x hx => ucell_lt (h2 a x hx))), hg.below⟩
theorem selC_arr {kids more : List ST} {i : Nat} {tx : ByteArray} (ht : tx.data.toList = digs i) (hi : i ≤ 1000000) : SelC (nrm (.mk 5 [] kids more)) (.iface 119 (.string tx)) (· = arrAt (kids.map nrm) (more.map nrm) i) := by
  rw [nrm_o (by decide) (by decide)]
  exact selC_of fun m r w h1 h2 => sel_arr h1 ht hi h2
theorem selC_obj {ks : List AK} {kids more : List ST} {n : Nat} {tx : ByteArray} (hl : ks.length = kids.length) (hd : ks.Nodup) (hn : n < kids.length) (hk : ks[n]'(by omega) = .text tx) (hw : kids.length < 1000000000) :
    SelC (nrm (.mk 6 (ks.map kyOf) kids more)) (.iface 9 (.string tx)) (· = some (nrm kids[n])) := by
  rw [nrm_6, kyOf_map]
  have hz : (AK.text tx, nrm kids[n]) ∈ objP ks (kids.map nrm) := by
    rw [(objP_perm _ _).mem_iff]
    rw [List.mem_iff_getElem]
    exact ⟨n, by simp; omega, by simp [hk]⟩
  have hlen : (objP ks (kids.map nrm)).length = kids.length := by rw [(objP_perm _ _).length_eq]; simp; omega
  obtain ⟨j, hj, ej⟩ := List.mem_iff_getElem.1 hz
  generalize objP ks (kids.map nrm) = L at hj ej hlen ⊢
  have he : nrm kids[n] = (L.map (·.2))[j]'(by simpa using hj) := by simp [ej]
  rw [he]
  exact selC_of fun m r w h1 h2 => sel_obj (k := .text tx) h1 (by simpa using hj) (by simpa using hj) (by simp [ej]) h2 (by simp; omega)
theorem icmp_zero {t : IT} {m m' : Mem} {kd' : Int} {nm' tx' : ByteArray} {ak a1 a2 ak' a1' a2' : Option Addr} {nk ck n1 c1 n2 c2 nk' ck' n1' c1' n2' c2' : Nat} {w : World} {o : Option ST} (ho : o = some (nrm (toS t)))
    (hv : MIT m (itCells (oI o).kind ⟨#[]⟩ ⟨#[]⟩ ak nk ck a1 n1 c1 a2 n2 c2) (oI o)) (hb : BT (toS t)) (hw : WI t ≤ 5000) (hm : MLe m w.cell?)
    (hv' : MIT m' (itCells kd' nm' tx' ak' nk' ck' a1' n1' c1' a2' n2' c2') t) (hm' : MLe m' w.cell?) :
    Calls Tryz.prog 23 #[.agg #[.int .i64 (oI o).kind, .string ⟨#[]⟩, .string ⟨#[]⟩, .slice ak nk ck, .slice a1 n1 c1, .slice a2 n2 c2], .agg #[.int .i64 kd', .string nm', .string tx', .slice ak' nk' ck', .slice a1' n1' c1', .slice a2' n2' c2']] w (fun e w' => e = .returned (.int .i64 0) ∧ Below w.heap.size w w') := by
  subst ho
  have hn := nrm_nt hb
  exact (icmp_any (t := oI (some (nrm (toS t)))) hv (by rw [oI, toS_toI]; exact hn.bt) (by rw [oI, WI_toI, nrm_WS hb, WS_toS]; omega) hm hv' hb (by omega) hm').mono fun e w' h => ⟨by rw [h.1, oI, toS_toI, nrm_id hn (nrm_sd hb), cmpT_self], h.2⟩
theorem toS_5 {t : IT} (h : BT (toS t)) (k : t.kind = 5) : toS t = .mk 5 [] (t.kids.map toS) (t.more.map toS) := by
  have e := toS_mk t
  rw [k] at e
  rw [e] at h
  rw [e, (bt_5 h).1]
theorem wi_kid {t x : IT} (h : x ∈ t.kids ∨ x ∈ t.more) : WI x ≤ WI t := by
  rw [← WS_toS x, ← WS_toS t]
  refine ws_in ?_
  rw [toS_mk]
  exact h.imp (List.mem_map_of_mem (f := toS)) (List.mem_map_of_mem (f := toS))
theorem bt_kid {t x : IT} (hb : BT (toS t)) (h : x ∈ t.kids ∨ x ∈ t.more) : BT (toS x) := by
  refine bt_len hb _ ?_
  rw [toS_mk]
  exact h.imp (List.mem_map_of_mem (f := toS)) (List.mem_map_of_mem (f := toS))
theorem some_w {x : IT} (hb : BT (toS x)) (hw : WI x ≤ 5000) : ∀ o, o = some (nrm (toS x)) → oW o ≤ 1000000000 := fun o e => by
  subst e
  rw [oW, nrm_WS hb, WS_toS]; omega
theorem sel21_arr {t x : IT} {m : Mem} {kd : Int} {nm tx vt : ByteArray} {ak a1 a2 : Option Addr} {nk ck n1 c1 n2 c2 : Nat} {w : World} {k : Nat} (hv : MIT m (itCells kd nm tx ak nk ck a1 n1 c1 a2 n2 c2) t) (hb : BT (toS t)) (hw : WI t ≤ 5000) (h5 : t.kind = 5) (hk : k ≤ 1000000)
    (hx : x ∈ t.kids ∨ x ∈ t.more) (ho : arrAt ((t.kids.map toS).map nrm) ((t.more.map toS).map nrm) k = some (nrm (toS x))) (ht : vt.data.toList = digs k) (hm : MLe m w.cell?) :
    Calls Tryz.prog 21 #[.agg #[.int .i64 kd, .string nm, .string tx, .slice ak nk ck, .slice a1 n1 c1, .slice a2 n2 c2], .agg #[.int .i64 3, .string vt, .slice none 0 0, .slice none 0 0]] w (SeQ (· = some (nrm (toS x))) w) :=
  isel_any hv hb (by omega) hm valC_num (by rw [toS_5 hb h5, ← ho]; exact selC_arr ht hk) (some_w (bt_kid hb hx) (Nat.le_trans (wi_kid hx) hw))
theorem arr_kid {t : IT} {k : Nat} (hk : k < t.kids.length) : arrAt ((t.kids.map toS).map nrm) ((t.more.map toS).map nrm) k = some (nrm (toS t.kids[k])) := by
  unfold arrAt; rw [dif_pos (by simpa using hk)]; simp
theorem arr_more {t : IT} {k : Nat} (hk : ¬k < t.kids.length) (h : 0 < t.more.length) : arrAt ((t.kids.map toS).map nrm) ((t.more.map toS).map nrm) k = some (nrm (toS t.more[0])) := by
  unfold arrAt; rw [dif_neg (by simpa using hk)]
  obtain ⟨kd, nm, tx, ks, kids, more⟩ := t
  simp only [IT.more] at h ⊢
  cases more with
  | nil => simp at h
  | cons a l => simp
theorem sel21_obj {t : IT} {m : Mem} {kd : Int} {nm tx : ByteArray} {ak a1 a2 : Option Addr} {nk ck n1 c1 n2 c2 : Nat} {w : World} {k : Nat} (hv : MIT m (itCells kd nm tx ak nk ck a1 n1 c1 a2 n2 c2) t) (hb : BT (toS t)) (hw : WI t ≤ 5000) (h6 : t.kind = 6) (hk : k < t.keys.length) (hk2 : k < t.kids.length)
    (h4 : t.keys[k].kind = 4) (hm : MLe m w.cell?) :
    Calls Tryz.prog 21 #[.agg #[.int .i64 kd, .string nm, .string tx, .slice ak nk ck, .slice a1 n1 c1, .slice a2 n2 c2], .agg #[.int .i64 4, .string t.keys[k].text, .slice none 0 0, .slice none 0 0]] w (SeQ (· = some (nrm (toS t.kids[k]))) w) := by
  refine isel_any hv hb (by omega) hm valC_str ?_ (some_w (bt_kid hb (.inl (List.getElem_mem hk2))) (Nat.le_trans (wi_kid (.inl (List.getElem_mem hk2))) hw))
  have e := toS_mk t
  rw [h6] at e
  rw [e] at hb ⊢
  obtain ⟨aks, e1, e2, e3, e4, e5, e6⟩ := bt_6 hb
  have hl : t.kids.length ≤ 5000 := by
    have h1 := WS_eq (toS t)
    have h2 := sum_ge WS WS_pos (toS t).kids
    rw [WS_toS] at h1
    rw [e] at h2
    rw [e] at h1
    simp [ST.kids] at h1 h2
    omega
  have hk3 : k < aks.length := by rw [e2]; simpa using hk2
  have hka : t.keys[k] = kyOf aks[k] := by simp [e1]
  have hat : aks[k] = .text t.keys[k].text := by
    rw [hka]
    rw [hka] at h4
    generalize aks[k] = a at h4
    cases a with
    | none => exact absurd h4 (by simp [kyOf])
    | bool x => cases x <;> exact absurd h4 (by simp [kyOf])
    | text x => rfl
  have := selC_obj (kids := t.kids.map toS) (more := t.more.map toS) (n := k) (tx := t.keys[k].text) e2 e3 (by simpa using hk2) hat (by simp; omega)
  rw [← e1, List.getElem_map] at this
  exact this
end Go.Proofs.YtaglgokeejjagaaGreat
