/- Types as the package keeps them: plain Lean. -/
import Derived.Test.YtaglgokeejjagaaGreatCode
import Derived.Test.YtaglgokeejjagaaGreatInTy
namespace Go.Proofs.YtaglgokeejjagaaGreat
set_option linter.unusedVariables false
set_option linter.unusedSimpArgs false
open Go.RowKit

def leT (a b : ST) : Bool := decide (cmpT a b ≤ 0)
def leP (a b : Pr) : Bool := decide (lexc (akCode a.1) (akCode b.1) ≤ 0)
def srtT (l : List ST) : List ST := l.mergeSort leT
def srtP (l : List Pr) : List Pr := l.mergeSort leP
theorem leT_iff {a b : ST} : leT a b = true ↔ cmpT a b ≤ 0 := by unfold leT; simp
theorem leP_iff {a b : Pr} : leP a b = true ↔ lexc (akCode a.1) (akCode b.1) ≤ 0 := by unfold leP; simp
theorem leT_trans (a b c : ST) (h : leT a b = true) (k : leT b c = true) : leT a c = true := leT_iff.2 (lexc_le_trans (leT_iff.1 h) (leT_iff.1 k))
theorem leP_trans (a b c : Pr) (h : leP a b = true) (k : leP b c = true) : leP a c = true := leP_iff.2 (lexc_le_trans (leP_iff.1 h) (leP_iff.1 k))
theorem leT_total (a b : ST) : (leT a b || leT b a) = true := by
  unfold leT
  have := cmpT_neg a b
  rw [Bool.or_eq_true, decide_eq_true_eq, decide_eq_true_eq]; omega
theorem leP_total (a b : Pr) : (leP a b || leP b a) = true := by
  unfold leP
  have := lexc_neg (akCode a.1) (akCode b.1)
  rw [Bool.or_eq_true, decide_eq_true_eq, decide_eq_true_eq]; omega
theorem srtT_perm (l : List ST) : (srtT l).Perm l := List.mergeSort_perm _ _
theorem srtP_perm (l : List Pr) : (srtP l).Perm l := List.mergeSort_perm _ _
theorem srtT_sorted (l : List ST) : (srtT l).Pairwise (fun a b => cmpT a b ≤ 0) := (List.pairwise_mergeSort leT_trans leT_total l).imp leT_iff.1
theorem srtP_sorted (l : List Pr) : (srtP l).Pairwise (fun a b => lexc (akCode a.1) (akCode b.1) ≤ 0) := (List.pairwise_mergeSort leP_trans leP_total l).imp leP_iff.1
theorem srtT_of {l l' : List ST} (h : ∀ s ∈ l, NT s) (hp : l'.Perm l) (hs : l'.Pairwise (fun a b => cmpT a b ≤ 0)) : l' = srtT l := by
  refine List.Perm.eq_of_pairwise (le := fun a b => cmpT a b ≤ 0) (fun a b ha hb h1 h2 => ?_) hs (srtT_sorted l) (hp.trans (srtT_perm l).symm)
  have := cmpT_neg a b
  exact (cmpT_zero (h a (hp.mem_iff.1 ha)) (h b ((srtT_perm l).mem_iff.1 hb))).1 (by omega)
theorem srtP_lt {l : List Pr} (h : l.Pairwise (fun a b => a.1 ≠ b.1)) : (srtP l).Pairwise (fun a b => AK.lt a.1 b.1) := by
  have h2 : (srtP l).Pairwise (fun a b => a.1 ≠ b.1) := h.perm (srtP_perm l).symm (fun h e => h e.symm)
  refine (h2.and (srtP_sorted l)).imp fun ⟨h1, h3⟩ => ?_
  rw [← ak_lt]
  rcases Int.lt_or_eq_of_le h3 with h4 | h4
  · exact h4
  · rw [ak_code] at h4; exact absurd (AK.cmp_zero.1 h4) h1
theorem srtP_of {l l' : List Pr} (h : l.Pairwise (fun a b => a.1 ≠ b.1)) (hp : l'.Perm l) (hs : l'.Pairwise (fun a b => AK.lt a.1 b.1)) : l' = srtP l :=
  pr_unique hs (srtP_lt h) (hp.trans (srtP_perm l).symm)

/-- A type that can be built. -/
inductive BT : ST → Prop
  | null : BT (.mk 1 [] [] [])
  | bool : BT (.mk 2 [] [] [])
  | num : BT (.mk 3 [] [] [])
  | str : BT (.mk 4 [] [] [])
  | arr {kids more : List ST} (h1 : ∀ k ∈ kids, BT k) (h2 : more.length ≤ 1) (h3 : ∀ k ∈ more, BT k) : BT (.mk 5 [] kids more)
  | obj {ks : List AK} {kids more : List ST} (hk : ks.length = kids.length) (hd : ks.Nodup) (h1 : ∀ k ∈ kids, BT k) (h2 : more.length = 0 ∨ more.length = 2) (h3 : ∀ k ∈ more, BT k) : BT (.mk 6 (ks.map kyOf) kids more)
  | set {t : ST} (h : BT t) : BT (.mk 7 [] [t] [])
  | any {kids : List ST} (h1 : ∀ k ∈ kids, BT k) : BT (.mk 8 [] kids [])

theorem AK.nodup {ks : List AK} (h : ks.Pairwise AK.lt) : ks.Nodup := List.Pairwise.imp (R := AK.lt) (fun {a b} hl (e : a = b) => AK.lt_irrefl b (by rw [e] at hl; exact hl)) h
/-- The properties of an object in order. -/
def objP (ks : List AK) (kids : List ST) : List Pr := srtP (ks.zip kids)
/-- A type as the package keeps it. -/
def nrm : ST → ST
  | .mk kd ks kids more =>
    if kd = 6 then .mk 6 ((objP (ks.map akOf) (kids.map nrm)).map fun x => kyOf x.1) ((objP (ks.map akOf) (kids.map nrm)).map (·.2)) (more.map nrm)
    else if kd = 8 then .mk 8 [] (srtT (kids.map nrm)) []
    else .mk kd ks (kids.map nrm) (more.map nrm)
termination_by t => SizeOf.sizeOf t
decreasing_by
  all_goals first
  | exact ST.lt_kid (by assumption)
  | exact ST.lt_more (by assumption)
theorem nrm_6 (ks : List AK) (kids more : List ST) : nrm (.mk 6 (ks.map kyOf) kids more) = .mk 6 ((objP ks (kids.map nrm)).map fun x => kyOf x.1) ((objP ks (kids.map nrm)).map (·.2)) (more.map nrm) := by
  have e : (ks.map kyOf).map akOf = ks := by
    rw [List.map_map]; exact (List.map_congr_left (g := id) (fun k _ => akOf_kyOf k)).trans (List.map_id _)
  rw [nrm, if_pos rfl, e]
theorem nrm_8 (kids : List ST) : nrm (.mk 8 [] kids []) = .mk 8 [] (srtT (kids.map nrm)) [] := by
  rw [nrm, if_neg (by decide), if_pos rfl]
theorem nrm_o {kd : Int} (h : kd ≠ 6) (h' : kd ≠ 8) (ks : List Ky) (kids more : List ST) : nrm (.mk kd ks kids more) = .mk kd ks (kids.map nrm) (more.map nrm) := by
  rw [nrm, if_neg h, if_neg h']

/-- No any type stands right in an any type. -/
inductive Na : ST → Prop
  | mk {kd : Int} {ks : List Ky} {kids more : List ST} (h : kd = 8 → ∀ k ∈ kids, k.kind ≠ 8) (h1 : ∀ k ∈ kids, Na k) (h2 : ∀ k ∈ more, Na k) : Na (.mk kd ks kids more)
theorem Na.out {t : ST} (h : Na t) : (t.kind = 8 → ∀ k ∈ t.kids, k.kind ≠ 8) ∧ (∀ k ∈ t.kids, Na k) ∧ ∀ k ∈ t.more, Na k := by cases h with | mk a b c => exact ⟨a, b, c⟩

theorem zip_fst {α β : Type} {l : List α} {l' : List β} (h : l.length = l'.length) : (l.zip l').map (·.1) = l := by
  rw [List.map_fst_zip]; omega
theorem zip_snd {α β : Type} {l : List α} {l' : List β} (h : l.length = l'.length) : (l.zip l').map (·.2) = l' := by
  rw [List.map_snd_zip]; omega
theorem objP_perm (ks : List AK) (kids : List ST) : (objP ks kids).Perm (ks.zip kids) := srtP_perm _
theorem zip_apart {ks : List AK} {kids : List ST} (h : ks.length = kids.length) (hd : ks.Nodup) : (ks.zip kids).Pairwise (fun a b => a.1 ≠ b.1) := by
  have e := zip_fst h
  have : ((ks.zip kids).map (·.1)).Pairwise (· ≠ ·) := by rw [e]; exact hd
  rwa [List.pairwise_map] at this
theorem objP_lt {ks : List AK} {kids : List ST} (h : ks.length = kids.length) (hd : ks.Nodup) : (objP ks kids).Pairwise (fun a b => AK.lt a.1 b.1) := srtP_lt (zip_apart h hd)
theorem objP_keys {ks : List AK} {kids : List ST} (h : ks.length = kids.length) : ((objP ks kids).map (·.1)).Perm ks := by
  have := (objP_perm ks kids).map (·.1)
  rwa [zip_fst h] at this
theorem objP_kids {ks : List AK} {kids : List ST} (h : ks.length = kids.length) : ((objP ks kids).map (·.2)).Perm kids := by
  have := (objP_perm ks kids).map (·.2)
  rwa [zip_snd h] at this
theorem map_ex {α β : Type} {f : α → β} {l : List α} {P : β → Prop} (h : ∀ k ∈ l, P (f k)) : ∀ k ∈ l.map f, P k := fun k hk => by
  obtain ⟨x, hx, rfl⟩ := List.mem_map.1 hk; exact h x hx
theorem kyOf_map (l : List Pr) : (l.map fun x => kyOf x.1) = (l.map (·.1)).map kyOf := by rw [List.map_map]; rfl
theorem nrm_nt {s : ST} (h : BT s) : NT (nrm s) := by
  induction h with
  | null => rw [nrm_o (by decide) (by decide)]; exact .null
  | bool => rw [nrm_o (by decide) (by decide)]; exact .bool
  | num => rw [nrm_o (by decide) (by decide)]; exact .num
  | str => rw [nrm_o (by decide) (by decide)]; exact .str
  | arr h1 h2 h3 ih ih2 => rw [nrm_o (by decide) (by decide)]; exact .arr (map_ex ih) (by simpa using h2) (map_ex ih2)
  | @obj ks kids more hk hd h1 h2 h3 ih ih2 =>
    have hl : ks.length = (kids.map nrm).length := by simpa using hk
    rw [nrm_6, kyOf_map]
    refine .obj (by simp) ?_ (fun k hk => ?_) (by simpa using h2) (map_ex ih2)
    · rw [List.pairwise_map]; exact objP_lt hl hd
    · exact map_ex ih k ((objP_kids hl).mem_iff.1 hk)
  | set h ih => rw [nrm_o (by decide) (by decide)]; exact .set ih
  | any h1 ih => rw [nrm_8]; exact .any fun k hk => map_ex ih k ((srtT_perm _).mem_iff.1 hk)
theorem nrm_kind {s : ST} : (nrm s).kind = s.kind := by
  obtain ⟨kd, ks, kids, more⟩ := s
  rw [nrm]
  split
  · rename_i h; exact h.symm
  · split
    · rename_i h; exact h.symm
    · rfl
theorem nrm_na {s : ST} (h : BT s) : Na s → Na (nrm s) := by
  induction h with
  | null | bool | num | str => intro _; rw [nrm_o (by decide) (by decide)]; exact .mk (fun h => by cases h) (by simp) (by simp)
  | arr h1 h2 h3 ih ih2 => intro hn; rw [nrm_o (by decide) (by decide)]; exact .mk (fun h => by cases h) (map_ex fun k hk => ih k hk (hn.out.2.1 k hk)) (map_ex fun k hk => ih2 k hk (hn.out.2.2 k hk))
  | @obj ks kids more hk hd h1 h2 h3 ih ih2 =>
    intro hn
    have hl : ks.length = (kids.map nrm).length := by simpa using hk
    rw [nrm_6]
    exact .mk (fun h => by cases h) (fun k hk => map_ex (fun k hk => ih k hk (hn.out.2.1 k hk)) k ((objP_kids hl).mem_iff.1 hk)) (map_ex fun k hk => ih2 k hk (hn.out.2.2 k hk))
  | set h ih => intro hn; rw [nrm_o (by decide) (by decide)]; exact .mk (fun h => by cases h) (fun k hk => by simp at hk; rw [hk]; exact ih (hn.out.2.1 _ (by simp [ST.kids]))) (by simp)
  | any h1 ih =>
    intro hn; rw [nrm_8]
    refine .mk (fun _ k hk => ?_) (fun k hk => map_ex (fun k hk => ih k hk (hn.out.2.1 k hk)) k ((srtT_perm _).mem_iff.1 hk)) (by simp)
    exact map_ex (P := fun k => k.kind ≠ 8) (fun k hk => by rw [nrm_kind]; exact hn.out.1 rfl k hk) k ((srtT_perm _).mem_iff.1 hk)
theorem perm_sum {α : Type} (f : α → Nat) {l l' : List α} (h : l.Perm l') : (l.map f).sum = (l'.map f).sum := by
  induction h with
  | nil => rfl
  | cons x h ih => simp only [List.map_cons, List.sum_cons, ih]
  | swap x y l => simp only [List.map_cons, List.sum_cons]; omega
  | trans h1 h2 ih1 ih2 => exact ih1.trans ih2
theorem sum_map_nrm {l : List ST} (h : ∀ k ∈ l, WS (nrm k) = WS k) : ((l.map nrm).map WS).sum = (l.map WS).sum := by
  rw [List.map_map]; exact congrArg List.sum (List.map_congr_left h)
theorem nrm_WS {s : ST} (h : BT s) : WS (nrm s) = WS s := by
  induction h with
  | null | bool | num | str => rw [nrm_o (by decide) (by decide)]; rfl
  | arr h1 h2 h3 ih ih2 => rw [nrm_o (by decide) (by decide), WS, WS, sum_map_nrm ih, sum_map_nrm ih2]
  | @obj ks kids more hk hd h1 h2 h3 ih ih2 =>
    have hl : ks.length = (kids.map nrm).length := by simpa using hk
    rw [nrm_6, WS, WS, sum_map_nrm ih2, perm_sum WS (objP_kids hl), sum_map_nrm ih, kyOf_map, perm_sum (fun k => k.text.size) ((objP_keys hl).map kyOf), ((objP_keys hl).map kyOf).length_eq]
  | set h ih => rw [nrm_o (by decide) (by decide), WS, WS]; simp [ih]
  | any h1 ih => rw [nrm_8, WS, WS, perm_sum WS (srtT_perm _), sum_map_nrm ih]
end Go.Proofs.YtaglgokeejjagaaGreat
