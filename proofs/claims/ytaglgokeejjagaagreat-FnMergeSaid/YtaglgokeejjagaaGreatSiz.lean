/- 'append' of a row of types onto a row of the call's own. -/
import Derived.Test.YtaglgokeejjagaaGreatApp
import Derived.Test.YtaglgokeejjagaaGreatFits2
import Derived.Test.YtaglgokeejjagaaGreatKGV
namespace Go.Proofs.YtaglgokeejjagaaGreat
set_option linter.unusedVariables false
set_option linter.unusedSimpArgs false
open Go.RowKit Go.Sort Go.Proofs.YtaglgokeejjagaaGreatW.PrintLast

section
variable {P : Program} {w : World}
theorem run_app_none (base : Nat) (t ty e : TypeId) (i : TypeInfo) (size : Nat) (ht : P.underlying t = some (.slice e)) (hi : P.info? e = some i)
    (v : Value) (n : Nat) (xs : List Value) (hown : w.ownsRow base e size v n xs) (c : Nat) :
    (Builtin.append_ #[t, t] ty #[v, .slice none 0 c]).run P w = .ok v w := by
  rcases hown.2 with ⟨rfl, rfl⟩ | ⟨g, cap, cur, rfl, _, _, hnc, _⟩
  · simp [Builtin.append_, run_underlying ht, sizeOf, typeInfo, hi, Builtin.lenOf, Builtin.firstCells]
  · simp [Builtin.append_, run_underlying ht, sizeOf, typeInfo, hi, Builtin.lenOf, Builtin.firstCells, hnc, storeCells]
end
theorem flatten_len {n : Nat} : ∀ {l : List (List Value)}, (∀ c ∈ l, c.length = n) → l.flatten.length = l.length * n
  | [], _ => by simp
  | c :: l, h => by
    rw [List.flatten_cons, List.length_append, flatten_len (fun c hc => h c (List.mem_cons_of_mem _ hc)), h c List.mem_cons_self, List.length_cons, Nat.succ_mul]; omega
theorem flatten_at {n : Nat} : ∀ {l : List (List Value)}, (∀ c ∈ l, c.length = n) → ∀ {j : Nat} {u : Value}, l.flatten[j]? = some u → ∃ i k, ∃ h : i < l.length, j = i * n + k ∧ l[i][k]? = some u
  | [], _, j, u, h => by simp at h
  | c :: l, hl, j, u, h => by
    rw [List.flatten_cons, List.getElem?_append] at h
    have hc := hl c List.mem_cons_self
    by_cases hj : j < c.length
    · rw [if_pos hj] at h
      exact ⟨0, j, by simp, by simp, h⟩
    · rw [if_neg hj] at h
      obtain ⟨i, k, hi, e, hu⟩ := flatten_at (fun c hc => hl c (List.mem_cons_of_mem _ hc)) h
      refine ⟨i + 1, k, by simpa using hi, ?_, hu⟩
      rw [Nat.succ_mul]; omega
theorem flatten_drop {n : Nat} : ∀ {l : List (List Value)}, (∀ c ∈ l, c.length = n) → ∀ (i : Nat) (h : i < l.length), (l.flatten.drop (i * n)).take n = l[i]
  | [], _, i, h => absurd h (Nat.not_lt_zero _)
  | c :: l, hl, 0, h => by
    have hc := hl c List.mem_cons_self
    rw [Nat.zero_mul, List.drop_zero, List.flatten_cons, ← hc, List.take_left']
    · rfl
    · rfl
  | c :: l, hl, i + 1, h => by
    have hc := hl c List.mem_cons_self
    have e : (i + 1) * n = c.length + i * n := by rw [Nat.succ_mul]; omega
    rw [List.flatten_cons, e, ← List.drop_drop, List.drop_left, flatten_drop (fun c hc => hl c (List.mem_cons_of_mem _ hc)) i (by simpa using h)]
    rfl

/-- The cells of a row of types. -/
theorem rowST_cells {m : Mem} {a : Option Addr} {ts : List ST} (h : RowST m a ts) : ∃ kc : List (List Value), kc.length = ts.length ∧ (∀ c ∈ kc, c.length = 4) ∧ (∀ c ∈ kc, ∀ u ∈ c, u.oneCell' = true) ∧
    (∀ b off, a = some ⟨b, off, none⟩ → ∀ i (hi : i < kc.length) j u, kc[i][j]? = some u → m ⟨b, off + i * 4 + j, none⟩ = some u) ∧ (0 < ts.length → ∃ b off, a = some ⟨b, off, none⟩) ∧ ∀ i (h1 : i < kc.length) (h2 : i < ts.length), MST m kc[i] ts[i] := by
  obtain ⟨f, hr, hm⟩ := h
  have hsh : ∀ i (h : i < ts.length), (f i).length = 4 ∧ ∀ u ∈ f i, u.oneCell' = true := fun i h => by
    obtain ⟨kd, ak, nk, ck, a1, n1, c1, a2, n2, c2, e⟩ := (hm i h).shape
    rw [e]; exact ⟨rfl, by simp [stCells, Value.oneCell']⟩
  refine ⟨(List.range ts.length).map f, by simp, fun c hc => ?_, fun c hc => ?_, fun b off ea i hi j u hu => ?_, fun hn => ?_, fun i h1 h2 => ?_⟩
  · obtain ⟨i, hi, rfl⟩ := List.mem_map.1 hc; exact (hsh i (List.mem_range.1 hi)).1
  · obtain ⟨i, hi, rfl⟩ := List.mem_map.1 hc; exact (hsh i (List.mem_range.1 hi)).2
  · have hi' : i < ts.length := by simpa using hi
    obtain ⟨b', off', e, hc⟩ := hr (by omega)
    rw [ea] at e; cases e
    simp only [List.getElem_map, List.getElem_range] at hu
    exact hc i hi' j u hu
  · obtain ⟨b, off, e, _⟩ := hr hn; exact ⟨b, off, e⟩
  · simp only [List.getElem_map, List.getElem_range]; exact hm i h2

theorem Own.app {m : Mem} {B : Nat} {w w' : World} {v v' : Value} {l ts : List ST} {xs : List Value} {kc : List (List Value)} (hl : Lo m B) (ho : w.ownsRow B 42 4 v l.length xs) (hx : ∀ i (h : i < l.length), MST (fr m B w v.ownBlock) ((xs.drop (i * 4)).take 4) l[i])
    (hk : kc.length = ts.length) (h4 : ∀ c ∈ kc, c.length = 4) (hm : ∀ i (h1 : i < kc.length) (h2 : i < ts.length), MST m kc[i] ts[i])
    (ho' : w'.ownsRow B 42 4 v' (l.length + ts.length) (xs ++ kc.flatten)) (hg : w.grownBy w' v.ownBlock) (hat : v'.ownBlock = v.ownBlock ∨ v'.ownBlock = some w.heap.size) : Own MST m 42 4 B w' v' (l ++ ts) := by
  have hat' : v'.ownBlock = v.ownBlock ∨ ∃ k, v'.ownBlock = some k ∧ w.heap.size ≤ k := hat.imp id (fun e => ⟨_, e, Nat.le_refl _⟩)
  refine ⟨xs ++ kc.flatten, by rw [List.length_append]; exact ho', fun i hi => ?_⟩
  have hxl : xs.length = l.length * 4 := ho.1
  by_cases h : i < l.length
  · have e1 : (l ++ ts)[i] = l[i] := List.getElem_append_left h
    have e2 : ((xs ++ kc.flatten).drop (i * 4)).take 4 = (xs.drop (i * 4)).take 4 := by
      rw [List.drop_append_of_le_length (by omega), List.take_append_of_le_length (by rw [List.length_drop]; omega)]
    rw [e1, e2]
    exact (hx i h).mono (fr_step (fun k _ h2 h3 => hg.block k h2 h3) hat')
  · rw [List.length_append] at hi
    have hi2 : i - l.length < ts.length := by omega
    have e1 : (l ++ ts)[i] = ts[i - l.length] := List.getElem_append_right (by omega)
    have e2 : ((xs ++ kc.flatten).drop (i * 4)).take 4 = kc[i - l.length]'(by omega) := by
      rw [show i * 4 = xs.length + (i - l.length) * 4 by omega, ← List.drop_drop, List.drop_left, flatten_drop h4 (i - l.length) (by omega)]
    rw [e1, e2]
    exact (hm _ (by omega) hi2).mono (fr_old hl)

theorem step_cat {P : Program} {w : World} {ops : Array Oper} {o : Oper} {a : Act} {K : Act → World → Prop} {Q : Exit → Act → World → Prop} {F : Prop} (hgd : o.guard = none) (s x : Operand) (t : TypeId)
    (ho : o.op = .call { callee := .builtin .append, args := #[s, x], argTypes := #[t, t] }) {bytes : Nat} (hT : SlT P t 42 4 bytes) {m : Mem} {B : Nat} (hl : Lo m B) (hmw : MLe m w.cell?)
    (v : Value) (l : List ST) (hs : a.eval s = v) (hown : Own MST m 42 4 B w v l) (ad : Option Addr) (c : Nat) (ts : List ST) (hx : a.eval x = .slice ad ts.length c) (hr : RowST m ad ts)
    (h63 : l.length + ts.length ≤ maxLen) (hbytes : (l.length + ts.length) * bytes ≤ 140737488355328) (hbase : B ≤ w.heap.size)
    (h : ∀ p q r w', Own MST m 42 4 B w' (.slice p q r) (l ++ ts) → w.grownBy w' v.ownBlock → (∀ k, v.ownBlock = some k → B ≤ k) → K (a.put o.dst (.slice p q r)) w') :
    if Region.wanted o (yielded ops a.tmps) = true then Oper.wp P o a w K Q else F := by
  have hlt := hown.lt
  obtain ⟨xs, ho1, hx1⟩ := hown
  obtain ⟨kc, k1, k2, k3, k4, k5, k6⟩ := rowST_cells hr
  cases ad with
  | none =>
    have h0 : ts.length = 0 := by
      rcases Nat.eq_zero_or_pos ts.length with h | h
      · exact h
      · obtain ⟨b, off, e⟩ := k5 h; cases e
    have hts : ts = [] := List.eq_nil_of_length_eq_zero h0
    subst hts
    have hw : Region.wanted o (yielded ops a.tmps) = true := by simp [Region.wanted, hgd]
    rw [if_pos hw]
    obtain ⟨ht, ⟨i, z, hi, _⟩, _⟩ := hT
    have hrun := run_app_none (P := P) (w := w) B t o.type 42 i 4 ht hi v l.length xs ho1 c
    obtain ⟨p, q, r, rfl⟩ : ∃ p q r, v = .slice p q r := by
      rcases ho1.2 with ⟨rfl, _⟩ | ⟨g, cap, cur, rfl, _⟩ <;> exact ⟨_, _, _, rfl⟩
    unfold Oper.wp execOp
    simp only [ho, resolve, invoke, builtin, Sem.run_bind, Sem.run_pure, Result.andThen_ok, List.map_toArray, List.map_cons, List.map_nil, hs, hx, List.length_nil, hrun]
    exact h p q r w (by rw [List.append_nil]; exact ⟨xs, ho1, hx1⟩) ⟨rfl, rfl, rfl, Nat.le_refl _, fun _ _ _ => rfl⟩ (fun k e => (hlt k e).1)
  | some ad =>
    by_cases h0 : ts.length = 0
    · have hts : ts = [] := List.eq_nil_of_length_eq_zero h0
      subst hts
      refine step_app hgd s x t ho hT v l.length xs hs ho1 ad 0 c [] hx rfl (fun j u hu => by simp at hu) (by simp) (by simpa using h63) (by simpa using hbytes) hbase fun v' w' g1 g2 g3 => ?_
      obtain ⟨p, q, r, rfl⟩ : ∃ p q r, v' = .slice p q r := by
        rcases g1.2 with ⟨rfl, _⟩ | ⟨g, cap, cur, rfl, _⟩ <;> exact ⟨_, _, _, rfl⟩
      exact h p q r w' (Own.app (kc := []) hl ho1 hx1 rfl (by simp) (fun i h => absurd h (Nat.not_lt_zero _)) (by simpa using g1) g2 g3) g2 (fun k e => (hlt k e).1)
    · obtain ⟨b, off, e⟩ := k5 (by omega)
      cases e
      refine step_app hgd s x t ho hT v l.length xs hs ho1 ⟨b, off, none⟩ ts.length c kc.flatten hx (by rw [flatten_len k2, k1]) (fun j u hu => ?_) (fun u hu => by obtain ⟨c, hc, hu⟩ := List.mem_flatten.1 hu; exact k3 c hc u hu) h63 hbytes hbase fun v' w' g1 g2 g3 => ?_
      · obtain ⟨i, k, hi, rfl, hu2⟩ := flatten_at k2 hu
        have := hmw _ _ (k4 b off rfl i hi k u hu2)
        rw [show ((⟨b, off, none⟩ : Addr).add (i * 4 + k)) = ⟨b, off + i * 4 + k, none⟩ by unfold Addr.add; split <;> simp_all <;> omega]
        exact this
      · obtain ⟨p, q, r, rfl⟩ : ∃ p q r, v' = .slice p q r := by
          rcases g1.2 with ⟨rfl, _⟩ | ⟨g, cap, cur, rfl, _⟩ <;> exact ⟨_, _, _, rfl⟩
        exact h p q r w' (Own.app hl ho1 hx1 k1 k2 k6 g1 g2 g3) g2 (fun k e => (hlt k e).1)

theorem Own.made42 {m : Mem} {B : Nat} {w : World} (hB : B ≤ w.heap.size) : Own MST m 42 4 B (w.alloc (.cells #[] 42)) (.slice (some ⟨w.heap.size, 0, none⟩) 0 0) [] :=
  ⟨[], ⟨rfl, .inr ⟨w.heap.size, 0, #[], rfl, hB, al_new rfl, Nat.le_refl _, Nat.zero_le _, rfl, rfl⟩⟩, fun i hi => absurd hi (Nat.not_lt_zero _)⟩
end Go.Proofs.YtaglgokeejjagaaGreat
/- 'shaped': as many types in a type as its kind has. -/
namespace Go.Proofs.YtaglgokeejjagaaGreat
set_option linter.unusedVariables false
set_option linter.unusedSimpArgs false
open Go.RowKit Go.Sort

/-- As many types as its kind has. -/
def ShP (t : ST) : Prop := (1 ≤ t.kind ∧ t.kind ≤ 4 ∧ t.kids.length = 0 ∧ t.more.length = 0) ∨ (t.kind = 5 ∧ t.more.length ≤ 1) ∨ (t.kind = 6 ∧ t.keys.length = t.kids.length ∧ (t.more.length = 0 ∨ t.more.length = 2)) ∨
  (t.kind = 7 ∧ t.kids.length = 1 ∧ t.more.length = 0) ∨ (t.kind = 8 ∧ (∀ k ∈ t.kids, k.kind ≠ 8) ∧ t.more.length = 0)
def ShQ (t : ST) (w : World) (e : Ending) (w' : World) : Prop := ∃ b, e = .returned (.bool b) ∧ (b = true → ShP t) ∧ Gr w w'
theorem ShQ.mk {t : ST} {w w' : World} {b : Bool} (h : b = true → ShP t) (g : Gr w w') : ShQ t w (.returned (.bool b)) w' := ⟨b, rfl, h, g⟩

set_option maxHeartbeats 4000000 in
set_option maxRecDepth 100000 in
theorem shaped_any {t : ST} {m : Mem} {kd : Int} {ak a1 a2 : Option Addr} {nk ck n1 c1 n2 c2 : Nat} {w : World} (hv : MST m (stCells kd ak nk ck a1 n1 c1 a2 n2 c2) t) (hm : MLe m w.cell?) :
    Calls Tryz.prog 55 #[.agg #[.int .i64 kd, .slice ak nk ck, .slice a1 n1 c1, .slice a2 n2 c2]] w (ShQ t w) := by
  obtain ⟨rfl, rfl, rfl, rfl, ⟨lk1, lk2⟩, ⟨l11, l12⟩, ⟨l21, l22⟩, rk, r1, _⟩ := hv.open
  have H1 := Lib.hid r1
  have HM := Lib.hid hm
  clear rk r1 hm hv
  by_cases h8 : t.kind = 8
  · rw [h8]
    have HK := Lib.hid h8
    clear h8
    go_enter Tryz.func55, Tryz.ntmps55
    go_wp2
    go_loopw [66] (fun i wr => ∃ k : Nat, k ≤ t.kids.length ∧ i = .int .i64 k ∧ Hid (
      wr.heap[w.heap.size]? = some (.cells #[.int .i64 8, .slice ak t.keys.length ck, .slice a1 t.kids.length c1, .slice a2 t.more.length c2] 42 (0, 0)) ∧ Gr w wr ∧ ∀ j (h : j < t.kids.length), j < k → t.kids[j].kind ≠ 8)) (fun i _ => t.kids.length - (intOf i).toNat)
    case atStart => exact ⟨0, Nat.zero_le _, rfl, al_new rfl, (Gr.refl _).alloc _, fun j h hj => absurd hj (Nat.not_lt_zero _)⟩
    case round =>
      obtain ⟨k, hk, rfl, hI⟩ := hrel
      obtain ⟨x0, x1, x2, x3⟩ := cells4 hI.out.1
      have hbo : w.heap.size < wr.heap.size := lt_blk hI.out.1
      by_cases hlt : k < t.kids.length
      · obtain ⟨b, off, kd', ak', nk', ck', a1', n1', c1', a2', n2', c2', rfl, e0, e1, e2, e3, hkv⟩ := H1.out.at hlt
        have hm1 := HM.out.trans hI.out.2.1.mle
        replace e0 := hm1 _ _ e0
        replace e1 := hm1 _ _ e1
        replace e2 := hm1 _ _ e2
        replace e3 := hm1 _ _ e3
        have HKD := Lib.hid (hkv.open).1
        clear hkv hm1
        by_cases hk8 : kd' = 8
        · subst hk8
          go_wp2
          go_ret
          refine ShQ.mk (fun h => by cases h) ?_
          repeat (first | exact hI.out.2.1 | refine Gr.alloc ?_ _ | refine Gr.setCell ?_ (by simp; try omega) _)
        · go_wp2
          go_roundw
          case rel =>
            refine ⟨k + 1, by omega, by go_num, ?_⟩
            refine ⟨?_, ?_, fun j h hj => ?_⟩
            · first | exact al_old hI.out.1 | exact set_old (al_old hI.out.1) (by simp; omega)
            · repeat (first | exact hI.out.2.1 | refine Gr.alloc ?_ _ | refine Gr.setCell ?_ (by simp; try omega) _)
            · by_cases e : j < k
              · exact hI.out.2.2 j h e
              · obtain rfl : j = k := by omega
                rw [← HKD.out]; exact hk8
          case measure => simp [intOf]; omega
      · obtain rfl : k = t.kids.length := by omega
        go_wp2
        all_goals
          go_ret
          refine ShQ.mk (fun h => .inr (.inr (.inr (.inr ⟨HK.out, fun x hx => by obtain ⟨j, hj, rfl⟩ := List.getElem_of_mem hx; exact hI.out.2.2 j hj hj, ?_⟩)))) ?_
          · first | (simp at h; omega) | (simp at h; exact h.1) | simp_all
          · repeat (first | exact hI.out.2.1 | refine Gr.alloc ?_ _ | refine Gr.setCell ?_ (by simp; try omega) _)
  · go_enter Tryz.func55, Tryz.ntmps55
    go_wp2
    all_goals
      go_ret
      refine ShQ.mk (fun h => ?_) ((Gr.refl _).alloc _)
      first
      | exact absurd h (by decide)
      | (unfold ShP; simp at h; omega)
      | (unfold ShP; simp_all; done)
      | (unfold ShP; simp_all; omega)
end Go.Proofs.YtaglgokeejjagaaGreat
/- 'Size': how many types there are in a type. -/
namespace Go.Proofs.YtaglgokeejjagaaGreat
set_option linter.unusedVariables false
set_option linter.unusedSimpArgs false
open Go.RowKit Go.Sort Go.Proofs.YtaglgokeejjagaaGreatW.PrintLast

def SzQ (t : ST) (w : World) (e : Ending) (w' : World) : Prop := ∃ n : Nat, n ≤ WS t ∧ e = .returned (.int .i64 n) ∧ Below w.heap.size w w'
def SzOk (t : ST) : Prop := ∀ (m : Mem) (kd : Int) (ak a1 a2 : Option Addr) (nk ck n1 c1 n2 c2 : Nat) (w : World), MST m (stCells kd ak nk ck a1 n1 c1 a2 n2 c2) t → WS t ≤ 1000000 → MLe m w.cell? →
  Calls Tryz.prog 36 #[.agg #[.int .i64 kd, .slice ak nk ck, .slice a1 n1 c1, .slice a2 n2 c2]] w (SzQ t w)

set_option maxHeartbeats 4000000 in
set_option maxRecDepth 100000 in
theorem size_step {t : ST} (IH : Hid (∀ k, k ∈ t.kids ∨ k ∈ t.more → SzOk k)) : SzOk t := by
  intro m kd ak a1 a2 nk ck n1 c1 n2 c2 w hv hw hm
  obtain ⟨rfl, rfl, rfl, rfl, ⟨lk1, lk2⟩, ⟨l11, l12⟩, ⟨l21, l22⟩, rk, r1, r2⟩ := hv.open
  have H1 := Lib.hid r1
  have H2 := Lib.hid r2
  have HM := Lib.hid hm
  have HLO := Lib.hid (lo_of_mle hm)
  have HW := Lib.hid hw
  have HL := Lib.hid (show t.kids.length ≤ 1000000 ∧ t.more.length ≤ 1000000 ∧ t.kids.length + t.more.length ≤ 1000000 by
    have h := WS_eq t
    have h1 := sum_ge WS WS_pos t.kids
    have h2 := sum_ge WS WS_pos t.more
    omega)
  clear rk r1 r2 hm hv hw
  go_enter Tryz.func36, Tryz.ntmps36
  go_wp2_with fail
  have HX0 := Lib.hid (al_new (w := w) (o := .cells #[.int .i64 t.kind, .slice ak t.keys.length ck, .slice a1 t.kids.length c1, .slice a2 t.more.length c2] 42) rfl)
  have HB0 := Lib.hid (bl_alloc (Below.refl _ w) (.cells #[.int .i64 t.kind, .slice ak t.keys.length ck, .slice a1 t.kids.length c1, .slice a2 t.more.length c2] 42))
  generalize (w.alloc (.cells #[.int .i64 t.kind, .slice ak t.keys.length ck, .slice a1 t.kids.length c1, .slice a2 t.more.length c2] 42)) = W at HX0 HB0 ⊢
  have HM0 := Lib.hid (HM.out.trans (mle_below HB0.out))
  have HLO0 := Lib.hid (HLO.out.mono HB0.out.size)
  refine start_ (n := 9) (S := fun w' => w'.cell? ⟨w.heap.size, 2, none⟩ = some (.slice a1 t.kids.length c1) ∧ w'.cell? ⟨w.heap.size, 3, none⟩ = some (.slice a2 t.more.length c2)) (ds := []) (lb 9 0) (by kernel_rfl) rfl rfl ⟨cell_blk HX0.out 2 rfl, cell_blk HX0.out 3 rfl⟩ (fun hHeld => ?_)
  refine pure_ (i := 1) (N := some 7) (v := ?_) (a' := ?_) (lb 9 2) rfl rfl (by kernel_rfl) (fun _ _ _ h => h) (Or.inl ⟨by rfl, ?_⟩) ?_ ?_
  rotate_left
  · intro w'
    go_simp
    with_reducible rfl
  rotate_left
  · simp only [Act.put, nrA, nrB, nrC, i64_w, i32_w]
    rfl
  refine pure_ (i := 4) (N := some 10) (v := ?_) (a' := ?_) (lb 9 18) rfl rfl (by kernel_rfl) (fun _ _ _ h => h) (Or.inl ⟨by rfl, ?_⟩) ?_ ?_
  rotate_left
  · intro w'
    go_simp
    with_reducible rfl
  rotate_left
  · simp only [Act.put, nrA, nrB, nrC, i64_w, i32_w]
    rfl
  refine pure_ (i := 8) (N := some 14) (v := ?_) (a' := ?_) (lb 9 274) rfl rfl (by kernel_rfl) (fun _ _ _ h => h) (Or.inl ⟨by rfl, ?_⟩) ?_ ?_
  rotate_left
  · intro w'
    go_simp
    with_reducible rfl
  rotate_left
  · simp only [Act.put, nrA, nrB, nrC, i64_w, i32_w]
    rfl
  refine take_ (i := 2) (N := some 8) (v := ?_) (a' := ?_) (lb 9 278) rfl rfl (by kernel_rfl) (fun _ _ _ h => h) (Or.inl ⟨by rfl, ?_⟩) hHeld ?_ ?_
  rotate_left
  · rintro w' ⟨s0, s1⟩
    go_simp
    with_reducible rfl
  rotate_left
  · simp only [Act.put, nrA, nrB, nrC, i64_w, i32_w]
    rfl
  refine take_ (i := 5) (N := some 11) (v := ?_) (a' := ?_) (lb 9 310) rfl rfl (by kernel_rfl) (fun _ _ _ h => h) (Or.inl ⟨by rfl, ?_⟩) hHeld ?_ ?_
  rotate_left
  · rintro w' ⟨s0, s1⟩
    go_simp
    with_reducible rfl
  rotate_left
  · simp only [Act.put, nrA, nrB, nrC, i64_w, i32_w]
    rfl
  refine one_ (i := 0) (N := some 6) (lb 9 311) rfl rfl (by kernel_rfl) (by decide) (fun K hK => ?_)
  refine value_ (w1 := ?_) (v := ?_) (by rfl) rfl ?_ ?_
  rotate_left 2
  · go_simp
    constructor
    · rfl
    · rfl
  have HO1 := Lib.hid (Own.made42 (m := m) (B := W.heap.size) (w := W.drew) (Nat.le_refl _))
  have HX1 := Lib.hid (al_old (o := .cells #[] 42) HX0.out)
  refine hK.out _ _ ⟨cell_blk HX1.out 2 rfl, cell_blk HX1.out 3 rfl⟩ (fun hHeld => ?_)
  clear hK K
  refine norm_ (a' := ?_) ?_ ?_
  rotate_left
  · show Act.put _ (some 6) _ = _
    simp only [Act.put, nrA, nrB, nrC, i64_w, i32_w]
    rfl
  refine one_ (i := 3) (N := some 9) (lb 9 319) rfl rfl (by kernel_rfl) (by decide) (fun K hK => ?_)
  refine step_cat rfl _ _ _ rfl sl40 HLO0.out (mle_alloc HM0.out _) _ _ rfl HO1.out _ _ _ rfl H1.out (by have := HL.out; simp [maxLen]; omega) (by have := HL.out; simp; omega) (by simp) ?_
  intro p3 q3 r3 w3 ho3 hg3 hk3
  have HO3 := Lib.hid ho3
  have HG3 := Lib.hid hg3
  have HX3 := Lib.hid (grown_heap hg3 HX1.out (fun k e => by have := hk3 k e; have := lt_blk HX0.out; omega))
  have HB3 := Lib.hid (bl_grown (bl_alloc (Below.refl _ W.drew) (.cells #[] 42)) hg3 hk3)
  clear ho3 hg3 hk3
  refine hK.out _ _ ⟨cell_blk HX3.out 2 rfl, cell_blk HX3.out 3 rfl⟩ (fun hHeld => ?_)
  clear hK K
  refine norm_ (a' := ?_) ?_ ?_
  rotate_left
  · show Act.put _ (some 9) _ = _
    simp only [Act.put, nrA, nrB, nrC, i64_w, i32_w]
    rfl
  refine one_ (i := 6) (N := some 12) (lb 9 383) rfl rfl (by kernel_rfl) (by decide) (fun K hK => ?_)
  refine step_cat rfl _ _ _ rfl sl40 HLO0.out ((show MLe m W.drew.cell? from HM0.out).trans (mle_below HB3.out)) _ _ rfl HO3.out _ _ _ rfl H2.out (by have := HL.out; simp [maxLen]; omega) (by have := HL.out; simp; omega) HB3.out.size ?_
  intro p4 q4 r4 w4 ho4 hg4 hk4
  have HO4 := Lib.hid ho4
  have HX4 := Lib.hid (grown_heap hg4 HX3.out (fun k e => by have := hk4 k e; have := lt_blk HX0.out; omega))
  have HB4 := Lib.hid (bl_grown HB3.out hg4 hk4)
  clear ho4 hg4 hk4
  refine hK.out _ _ ⟨cell_blk HX4.out 2 rfl, cell_blk HX4.out 3 rfl⟩ (fun hHeld => ?_)
  clear hK K
  refine norm_ (a' := ?_) ?_ ?_
  rotate_left
  · show Act.put _ (some 12) _ = _
    simp only [Act.put, nrA, nrB, nrC, i64_w, i32_w]
    rfl
  refine pure_ (i := 7) (N := some 13) (v := ?_) (a' := ?_) (lb 9 511) rfl rfl (by kernel_rfl) (fun _ _ _ h => h) (Or.inl ⟨by rfl, ?_⟩) ?_ ?_
  rotate_left
  · intro w'
    go_simp
    with_reducible rfl
  rotate_left
  · simp only [Act.put, nrA, nrB, nrC, i64_w, i32_w]
    rfl
  refine done_ (by kernel_rfl) ?_
  obtain ⟨a4, c4, heq, lk4, row4⟩ := HO4.out.rowST
  cases heq
  have HLL := Lib.hid (show (([] ++ t.kids ++ t.more).map WS).sum + 1 ≤ WS t by
    have h := WS_eq t
    rw [List.nil_append, List.map_append, List.sum_append]; omega)
  have HLK := Lib.hid lk4
  obtain ⟨lk41, lk42⟩ := lk4
  have HM4 := Lib.hid (fr_le (B := W.heap.size) (r := none) ((show MLe m W.drew.cell? from HM0.out).trans (mle_below HB4.out)))
  have HR4 := Lib.hid row4
  clear row4
  have HI4 := Lib.hid (fun k (hk : k ∈ [] ++ t.kids ++ t.more) => IH.out k (List.mem_append.1 hk))
  generalize [] ++ t.kids ++ t.more = l at *
  go_wp2
  go_loopw [3, 14] (fun n i wr => ∃ (k s : Nat), k ≤ l.length ∧ s ≤ 1 + ((l.take k).map WS).sum ∧ n = .int .i64 s ∧ i = .int .i64 k ∧ Hid (Below w4.heap.size w4 wr)) (fun _ i _ => l.length - (intOf i).toNat)
  case atStart => exact ⟨0, 1, Nat.zero_le _, by simp, rfl, rfl, Below.refl _ _⟩
  case round =>
    obtain ⟨k, s, hk, hs, rfl, rfl, hI⟩ := hrel
    by_cases hlt : k < l.length
    · obtain ⟨b, off, kd', ak', nk', ck', a1', n1', c1', a2', n2', c2', ea, e0, e1, e2, e3, hkv⟩ := HR4.out.at hlt
      subst ea
      have hm1 := HM4.out.trans (mle_below hI.out)
      replace e0 := hm1 _ _ e0
      replace e1 := hm1 _ _ e1
      replace e2 := hm1 _ _ e2
      replace e3 := hm1 _ _ e3
      have HM1 := Lib.hid hm1
      have HKV := Lib.hid hkv
      have HSZ := Lib.hid (lt_blk HX4.out)
      have hss : s ≤ 1000000 ∧ WS l[k] + s ≤ 1000000 ∧ WS l[k] ≤ 1000000 := by
        have h1 := sum_take_succ WS l k hlt
        have h2 := sum_take_le WS l (k + 1)
        have h3 := HW.out
        have h4 := HLL.out
        omega
      obtain ⟨hs1, hs2, hs3⟩ := hss
      have HS3 := Lib.hid hs3
      clear hkv hm1
      go_wp2_with (go_at_call 36; refine (HI4.out _ (List.getElem_mem hlt) _ _ _ _ _ _ _ _ _ _ _ _ HKV.out HS3.out (mle_alloc HM1.out _)).mono ?_; rintro e w5 ⟨x, hx, rfl, hb⟩; have HB5 := Lib.hid hb; clear hb)
      go_roundw
      case rel => exact ⟨k + 1, s + x, by omega, by have := sum_take_succ WS l k hlt; omega, by go_num, by go_num, bl_trans (bl_alloc hI.out _) HB5.out⟩
      case measure => simp [intOf]; omega
    · obtain rfl : k = l.length := by omega
      have hss : s ≤ WS t := by
        have h4 := HLL.out
        rw [List.take_length] at hs
        omega
      go_wp2
      go_ret
      exact ⟨s, hss, rfl, bl_trans (bl_trans HB0.out.drew HB4.out) hI.out⟩

theorem size_n (n : Nat) : ∀ t, SizeOf.sizeOf t < n → SzOk t := by
  induction n with
  | zero => intro t h; exact absurd h (Nat.not_lt_zero _)
  | succ n ih => exact fun t hn => size_step (Lib.hid fun k hk => ih k (by rcases hk with h | h; exact Nat.lt_of_lt_of_le (ST.lt_kid' h) (Nat.le_of_lt_succ hn); exact Nat.lt_of_lt_of_le (ST.lt_more' h) (Nat.le_of_lt_succ hn)))
theorem size_any (t : ST) : SzOk t := size_n _ t (Nat.lt_succ_self _)
end Go.Proofs.YtaglgokeejjagaaGreat
