import PyProof.Rows.All
import Wide.All
import OpenK.AllK
import Wide.FinOn
import PySem.Challenge.RW_il0111_01
set_option Elab.async false
section
open PySem
namespace Mine
/-! small facts of numbers, stated once -/
theorem le3 {n : Nat} (h : n ≤ 3) : n = 0 ∨ n = 1 ∨ n = 2 ∨ n = 3 := match n, h with
  | 0, _ => .inl rfl
  | 1, _ => .inr (.inl rfl)
  | 2, _ => .inr (.inr (.inl rfl))
  | 3, _ => .inr (.inr (.inr rfl))
theorem toNat1 (n k : Nat) : (((n : Nat) : Int) - 1 - (k : Nat)).toNat = n - 1 - k := by
  rw [Int.sub_sub]
  exact (Int.toNat_sub n (1 + k)).trans (Nat.sub_sub n 1 k).symm
theorem toNat2 {n : Nat} (i : Nat) {l : Nat} (h : l = n) : (((l : Nat) : Int) - 1 - (0 + (i : Nat))).toNat = n - 1 - i := by
  rw [h, Int.zero_add]; exact toNat1 n i
theorem lt2b (j : Nat) : j < 2 * j + 2 := Nat.lt_succ_of_le (Nat.le_succ_of_le (Nat.le_mul_of_pos_left j (by decide)))
theorem lt2a (j : Nat) : j < 2 * j + 1 := Nat.lt_succ_of_le (Nat.le_mul_of_pos_left j (by decide))
theorem par_lt {k : Nat} (h : 0 < k) : (k - 1) / 2 < k := Nat.lt_of_le_of_lt (Nat.div_le_self _ _) (Nat.sub_lt h (by decide))
theorem par_ge {i k : Nat} (a : 0 < i) (q : (i - 1) / 2 = k) : 2 * k + 1 ≤ i := Nat.succ_pred_eq_of_pos a ▸ Nat.succ_le_succ (q ▸ Nat.mul_div_le (i - 1) 2)
theorem half1 (j : Nat) : (2 * j + 1 - 1) / 2 = j := Nat.mul_div_cancel_left j (by decide)
theorem half2 (j : Nat) : (2 * j + 2 - 1) / 2 = j := Nat.mul_add_div (by decide) j 1
theorem less_k {l j c k : Nat} (hk : k = l - j) (hj : j < l) (h : j < c) : l - c < k := hk ▸ Nat.sub_lt_sub_left hj h
theorem only_o {i2 : Int} {j o l : Nat} (hi2 : i2 = ((2 * j + 1 : Nat) : Int)) (hl : ¬i2 + 1 < ((l : Nat) : Int)) (a : 0 < o) (b : o < l) (d : (o - 1) / 2 = j) : o = 2 * j + 1 := by
  subst hi2
  have h1 : l ≤ 2 * j + 1 + 1 := Int.ofNat_le.mp (Int.not_lt.mp hl)
  exact Nat.le_antisymm (Nat.le_of_lt_succ (Nat.lt_of_lt_of_le b h1)) (par_ge a d)
theorem strip_c0 {e g : Int} {j : Nat} (hg : g = e - (j : Nat)) (hj : ((j : Nat) : Int) ≤ e) (h : g ≠ 0) : ((j : Nat) : Int) < e :=
  Int.lt_iff_le_and_ne.mpr ⟨hj, fun q => h (by rw [hg, ← q, Int.sub_self])⟩
theorem strip_a {e g : Int} {j k : Nat} (hk : k = e.toNat - j) (hg : g = e - (j : Nat)) (hj : ((j : Nat) : Int) ≤ e) (h : g ≠ 0) : e.toNat - (j + 1) < k :=
  hk ▸ Nat.sub_lt_sub_left (Int.lt_toNat.mpr (strip_c0 hg hj h)) (Nat.lt_succ_self j)
theorem strip_b {e g : Int} {j : Nat} (hg : g = e - (j : Nat)) (hj : ((j : Nat) : Int) ≤ e) (h : g ≠ 0) : ((j + 1 : Nat) : Int) ≤ e := Int.add_one_le_of_lt (strip_c0 hg hj h)
theorem strip_d {e : Int} {n j k : Nat} (hk : k = n - j) (he : e = ((n : Nat) : Int) - (j : Nat)) (hj : j ≤ n) (h : e ≠ 0) : n - (j + 1) < k :=
  hk ▸ Nat.sub_lt_sub_left (Nat.lt_of_le_of_ne hj fun q => h (by rw [he, q, Int.sub_self])) (Nat.lt_succ_self j)
/-! the heap's laws, over a key -/
def kf (κ : Value → Nat) (us : List Value) (i : Nat) : Nat := κ (us.getD i Value.none)
theorem kf_set {κ : Value → Nat} {us : List Value} {j : Nat} {v : Value} (hj : j < us.length) (i : Nat) : kf κ (us.set j v) i = if i = j then κ v else kf κ us i := by
  unfold kf
  by_cases h : i = j
  · subst h; simp [List.getD_eq_getElem?_getD, hj]
  · rw [if_neg h]; simp [List.getD_eq_getElem?_getD, Ne.symm h]
def HeapOk (κ : Value → Nat) (us : List Value) : Prop := ∀ i, 0 < i → i < us.length → kf κ us ((i - 1) / 2) ≤ kf κ us i
/-- the way up: the new item thought at its place -/
def UpOk (f : Nat → Nat) (n pos : Nat) : Prop :=
  (∀ i, 0 < i → i < n → i ≠ pos → f ((i - 1) / 2) ≤ f i) ∧ (0 < pos → ∀ c, 0 < c → c < n → (c - 1) / 2 = pos → f ((pos - 1) / 2) ≤ f c)
theorem up_step {f : Nat → Nat} {n pos c : Nat} (h0 : 0 < pos) (_hn : pos < n) (hU : UpOk (fun i => if i = pos then c else f i) n pos) (hlt : c < f ((pos - 1) / 2)) :
    UpOk (fun i => if i = (pos - 1) / 2 then c else if i = pos then f ((pos - 1) / 2) else f i) n ((pos - 1) / 2) := by
  obtain ⟨h1, h2⟩ := hU
  have hp : (pos - 1) / 2 ≠ pos := Nat.ne_of_lt (par_lt h0)
  refine ⟨fun i a b d => ?_, fun a i b d e => ?_⟩
  · simp only [if_neg d]
    by_cases q : i = pos
    · subst q
      rw [if_pos rfl, if_pos rfl]
      exact Nat.le_of_lt hlt
    · rw [if_neg q]
      have z := h1 i a b q
      simp only [if_neg q] at z
      by_cases r : (i - 1) / 2 = (pos - 1) / 2
      · rw [if_pos r]
        rw [r, if_neg hp] at z
        exact Nat.le_trans (Nat.le_of_lt hlt) z
      · rw [if_neg r]
        by_cases t : (i - 1) / 2 = pos
        · rw [if_pos t]
          have y := h2 h0 i a b t
          simp only [if_neg hp, if_neg q] at y
          exact y
        · rw [if_neg t]
          rw [if_neg t] at z
          exact z
  · have e1 : ((pos - 1) / 2 - 1) / 2 ≠ (pos - 1) / 2 := Nat.ne_of_lt (par_lt a)
    have e2 : ((pos - 1) / 2 - 1) / 2 ≠ pos := Nat.ne_of_lt (Nat.lt_trans (par_lt a) (par_lt h0))
    have e3 : i ≠ (pos - 1) / 2 := by rintro rfl; exact e1 e
    simp only [if_neg e1, if_neg e2, if_neg e3]
    have z := h1 ((pos - 1) / 2) a (Nat.lt_trans (par_lt h0) _hn) hp
    simp only [if_neg e2, if_neg hp] at z
    by_cases q : i = pos
    · rw [if_pos q]; exact z
    · rw [if_neg q]
      have y := h1 i b d q
      simp only [if_neg q, e, if_neg hp] at y
      exact Nat.le_trans z y
theorem up_done {f : Nat → Nat} {n pos : Nat} (hU : UpOk f n pos) (h : pos = 0 ∨ f ((pos - 1) / 2) ≤ f pos) : ∀ i, 0 < i → i < n → f ((i - 1) / 2) ≤ f i := by
  intro i a b
  by_cases q : i = pos
  · subst q
    rcases h with h | h
    · exact absurd h (Nat.ne_of_gt a)
    · exact h
  · exact hU.1 i a b q
/-- the way down: a hole at pos -/
def DownOk (f : Nat → Nat) (n pos : Nat) : Prop :=
  (∀ i, 0 < i → i < n → i ≠ pos → (i - 1) / 2 ≠ pos → f ((i - 1) / 2) ≤ f i) ∧ (0 < pos → ∀ c, 0 < c → c < n → (c - 1) / 2 = pos → f ((pos - 1) / 2) ≤ f c)
theorem down_step {f : Nat → Nat} {n pos ch : Nat} (hc : ch < n) (hch : (ch - 1) / 2 = pos) (hc0 : 0 < ch) (hD : DownOk f n pos) (hmin : ∀ o, 0 < o → o < n → (o - 1) / 2 = pos → f ch ≤ f o) :
    DownOk (fun i => if i = pos then f ch else f i) n ch := by
  obtain ⟨h1, h2⟩ := hD
  have hp : pos ≠ ch := fun q => Nat.ne_of_lt (par_lt hc0) (hch.trans q)
  refine ⟨fun i a b d e => ?_, fun a i b d e => ?_⟩ <;> dsimp only
  · by_cases q : i = pos
    · subst q
      rw [if_pos rfl, if_neg (Nat.ne_of_lt (par_lt a))]
      exact h2 a ch hc0 hc hch
    · rw [if_neg q]
      by_cases r : (i - 1) / 2 = pos
      · rw [if_pos r]; exact hmin i a b r
      · rw [if_neg r]; exact h1 i a b q r
  · have ne : ¬i = pos := fun q => Nat.ne_of_lt (Nat.lt_trans (par_lt b) (q ▸ (hch ▸ par_lt hc0))) e
    rw [hch, if_pos rfl, if_neg ne]
    have z := h1 i b d ne (fun q => hp (q.symm.trans e))
    rw [e] at z; exact z
theorem down_up {f : Nat → Nat} {n pos c : Nat} (hD : DownOk f n pos) (hleaf : n ≤ 2 * pos + 1) : UpOk (fun i => if i = pos then c else f i) n pos := by
  have leaf : ∀ {i : Nat}, 0 < i → i < n → ¬(i - 1) / 2 = pos := fun a b q => absurd (par_ge a q) (Nat.not_le.mpr (Nat.lt_of_lt_of_le b hleaf))
  refine ⟨fun i a b d => ?_, fun _ i a d e => absurd e (leaf a d)⟩
  dsimp only
  rw [if_neg d, if_neg (leaf a b)]
  exact hD.1 i a b d (leaf a b)
theorem heap_least {f : Nat → Nat} {n : Nat} (h : ∀ i, 0 < i → i < n → f ((i - 1) / 2) ≤ f i) : ∀ i, i < n → f 0 ≤ f i := by
  intro i
  induction i using Nat.strongRecOn with
  | ind i ih =>
    intro hi
    by_cases z : i = 0
    · subst z; exact Nat.le_refl _
    · have a := Nat.pos_of_ne_zero z
      exact Nat.le_trans (ih ((i - 1) / 2) (par_lt a) (Nat.lt_trans (par_lt a) hi)) (h i a hi)
theorem set_swap_perm {l : List Value} {i j : Nat} {x y : Value} (hi : i < l.length) (hj : j < l.length) (hne : i ≠ j) (hy : l[j]? = some y) : ((l.set i y).set j x).Perm (l.set i x) := by
  have h1 : i < (l.set i x).length := by simpa using hi
  have h2 : j < (l.set i x).length := by simpa using hj
  have z := List.set_set_perm h1 h2
  have e1 : (l.set i x)[j] = y := by
    rw [List.getElem_set_ne hne]
    rw [List.getElem?_eq_getElem hj] at hy
    exact Option.some.inj hy
  have e2 : (l.set i x)[i] = x := by rw [List.getElem_set_self]
  rw [e1, e2, List.set_set] at z
  exact z
theorem heap_pop {κ : Value → Nat} {vs : List Value} (h : HeapOk κ vs) : ∀ v ∈ vs, kf κ vs 0 ≤ κ v := by
  intro v hv
  obtain ⟨i, hi, e⟩ := List.mem_iff_getElem.mp hv
  have z := heap_least h i hi
  have e2 : kf κ vs i = κ v := by unfold kf; rw [List.getD_eq_getElem?_getD, List.getElem?_eq_getElem hi, e]; rfl
  rw [e2] at z; exact z
/-- what is put at the end -/
theorem heap_push {κ : Value → Nat} {vs : List Value} {v : Value} (h : HeapOk κ vs) : UpOk (kf κ (vs ++ [v])) (vs.length + 1) vs.length := by
  refine ⟨fun i a b d => ?_, fun _ c a d e => absurd (Nat.le_trans (par_ge a e) (Nat.le_of_lt_succ d)) (Nat.not_le.mpr (lt2a _))⟩
  · have hi : i < vs.length := Nat.lt_of_le_of_ne (Nat.le_of_lt_succ b) d
    have hp : (i - 1) / 2 < vs.length := Nat.lt_trans (par_lt a) hi
    have z := h i a hi
    unfold kf at z ⊢
    rw [List.getD_eq_getElem?_getD, List.getD_eq_getElem?_getD, List.getElem?_append_left hp, List.getElem?_append_left hi, ← List.getD_eq_getElem?_getD, ← List.getD_eq_getElem?_getD]
    exact z
/-- the heap less its last, that one at the top -/
theorem heap_down0 {κ : Value → Nat} {vs : List Value} {v : Value} (h : HeapOk κ (vs ++ [v])) (hne : 0 < vs.length) : DownOk (kf κ (vs.set 0 v)) vs.length 0 := by
  refine ⟨fun i a b d e => ?_, fun q => absurd q (Nat.lt_irrefl 0)⟩
  have z := h i a (by rw [List.length_append]; exact Nat.lt_add_right _ b)
  rw [kf_set hne, kf_set hne, if_neg e, if_neg d]
  have hp : (i - 1) / 2 < vs.length := Nat.lt_trans (par_lt a) b
  unfold kf at z ⊢
  rw [List.getD_eq_getElem?_getD, List.getD_eq_getElem?_getD, List.getElem?_append_left hp, List.getElem?_append_left b, ← List.getD_eq_getElem?_getD, ← List.getD_eq_getElem?_getD] at z
  exact z
end Mine
namespace Mine
theorem up_step_list {κ : Value → Nat} {us : List Value} {k n : Nat} {v0 v1 : Value} (h0 : 0 < k) (hk : k < us.length) (hn : us.length = n) (hU : UpOk (kf κ (us.set k v0)) n k) (hv1 : us[(k - 1) / 2]? = some v1) (hlt : κ v0 < κ v1) :
    UpOk (kf κ ((us.set k v1).set ((k - 1) / 2) v0)) n ((k - 1) / 2) := by
  have e1 : κ v1 = kf κ us ((k - 1) / 2) := by unfold kf; rw [List.getD_eq_getElem?_getD, hv1]; rfl
  have e0 : kf κ (us.set k v0) = fun i => if i = k then κ v0 else kf κ us i := funext (kf_set hk)
  have e2 : kf κ ((us.set k v1).set ((k - 1) / 2) v0) = fun i => if i = (k - 1) / 2 then κ v0 else if i = k then kf κ us ((k - 1) / 2) else kf κ us i := by
    funext i
    rw [kf_set (by rw [List.length_set]; exact Nat.lt_trans (par_lt h0) hk), kf_set hk, e1]
  rw [e0] at hU
  rw [e2]
  rw [e1] at hlt
  exact up_step h0 (hn ▸ hk) hU hlt
theorem set_self {us : List Value} {k : Nat} {v : Value} (h : us[k]? = some v) : us.set k v = us := by
  apply List.ext_getElem?
  intro i
  rw [List.getElem?_set]
  by_cases q : k = i
  · subst q
    have := (List.getElem?_eq_some_iff.mp h).1
    rw [if_pos rfl, if_pos this, h]
  · rw [if_neg q]
end Mine
namespace Mine
theorem kf_of {κ : Value → Nat} {us : List Value} {k : Nat} {v : Value} (h : us[k]? = some v) : kf κ us k = κ v := by unfold kf; rw [List.getD_eq_getElem?_getD, h]; rfl
theorem down_step_list {κ : Value → Nat} {us : List Value} {j ch n : Nat} {vc : Value} (hn : us.length = n) (hj : j < n) (hc : ch < n) (hch : (ch - 1) / 2 = j) (hc0 : 0 < ch) (hv : us[ch]? = some vc) (hD : DownOk (kf κ us) n j)
    (hmin : ∀ o, 0 < o → o < n → (o - 1) / 2 = j → κ vc ≤ kf κ us o) : DownOk (kf κ (us.set j vc)) n ch := by
  have e : kf κ (us.set j vc) = fun i => if i = j then kf κ us ch else kf κ us i := by
    funext i
    rw [kf_set (hn.symm ▸ hj), kf_of hv]
  rw [e]
  refine down_step hc hch hc0 hD fun o a b d => ?_
  rw [kf_of hv]
  exact hmin o a b d
theorem down_up_list {κ : Value → Nat} {us : List Value} {j n : Nat} {v0 : Value} (hn : us.length = n) (hj : j < n) (hD : DownOk (kf κ us) n j) (hleaf : n ≤ 2 * j + 1) : UpOk (kf κ (us.set j v0)) n j := by
  have e : kf κ (us.set j v0) = fun i => if i = j then κ v0 else kf κ us i := funext fun i => kf_set (hn.symm ▸ hj) i
  rw [e]
  exact down_up hD hleaf
end Mine
end

section
open PySem PySem.W PyProof.Rows
set_option maxRecDepth 100000
set_option maxHeartbeats 4000000
set_option Elab.async false
namespace Mine
open PySem.SeqAt PySem.MeetsSeq PySem.MeetsSeq2 PySem.MeetsSeq3
open AutoSeq1 (wpAny_loadPart')
/-- two lists of texts: the first differing place decides -/
noncomputable def ltSS : List Str → List Str → Bool
  | [], [] => false
  | [], _ :: _ => true
  | _ :: _, [] => false
  | x :: xs, y :: ys => if (x == y) = true then ltSS xs ys else decide (x.cps.toList < y.cps.toList)
theorem drop_cons_of {α : Type} {l : List α} {i : Nat} {x : α} (h : l[i]? = some x) : l.drop i = x :: l.drop (i + 1) := by
  obtain ⟨hi, e⟩ := List.getElem?_eq_some_iff.mp h
  rw [List.drop_eq_getElem_cons hi, e]
theorem lt_loopAt (l b : Addr) (items items2 : Array Value) (n n2 : Nat) (dd dd2 : Option Addr) (sl sl2 : Array (Option Value)) (ss ts : List Str) (hs : StrsAre items.toList ss) (ht : StrsAre items2.toList ts) (k : Nat) :
    ∀ i : Nat, ss.length - i = k → i ≤ ss.length → i ≤ ts.length → Meets (Builtin.«list.__eq__.loop» ⟨[.ref l, .ref b, rawInt i, rawInt 0], []⟩)
      (fun A R s => s.heap.get? l = some { cls := .type "list", dict := dd, data := .seq items n, slots := sl } ∧ s.heap.get? b = some { cls := .type "list", dict := dd2, data := .seq items2 n2, slots := sl2 } ∧
        R (.ok (.ret (.bool (ltSS (ss.drop i) (ts.drop i))))) s) := by
  have z1 : items.size = ss.length := by rw [← hs.length, Array.length_toList]
  have z2 : items2.size = ts.length := by rw [← ht.length, Array.length_toList]
  induction k with
  | zero =>
    intro i hk h1 h2 prog w A R s h
    obtain ⟨hp, g, d, tk, os⟩ := s; obtain ⟨hl, hb, h⟩ := h
    wp_walk using wpAny_loadPart' hl, wpAny_loadPart' hb
    have hi1 : items[((i : Nat) : Int).toNat]? = none := by simp; omega
    rw [hi1]
    wp_walk using wpAny_loadPart' hl, wpAny_loadPart' hb
    show R (.ok (.ret (.bool (decide (items.size < items2.size))))) _
    have hd : ss.drop i = [] := by simp; omega
    rw [hd] at h
    have hj : ltSS [] (ts.drop i) = decide (items.size < items2.size) := by
      by_cases q : i < ts.length
      · rw [List.drop_eq_getElem_cons q]
        have : items.size < items2.size := by omega
        simp [ltSS, this]
      · have e : ts.drop i = [] := by simp; omega
        rw [e]
        have : ¬ items.size < items2.size := by omega
        simp [ltSS, this]
    rw [hj] at h
    exact h
  | succ k ih =>
    intro i hk h1 h2 prog w A R s h
    obtain ⟨hp, g, d, tk, os⟩ := s; obtain ⟨hl, hb, h⟩ := h
    have hlt : i < ss.length := by omega
    obtain ⟨t, ht1⟩ := hs.get i ss[i] (List.getElem?_eq_getElem hlt)
    have hi1 : items[((i : Nat) : Int).toNat]? = some (.str ss[i] t) := by simpa using ht1
    by_cases hlt2 : i < ts.length
    · obtain ⟨u, hu1⟩ := ht.get i ts[i] (List.getElem?_eq_getElem hlt2)
      have hi2 : items2[((i : Nat) : Int).toNat]? = some (.str ts[i] u) := by simpa using hu1
      rw [drop_cons_of (List.getElem?_eq_getElem hlt), drop_cons_of (List.getElem?_eq_getElem hlt2)] at h
      have hc : ((i : Int) + 1) = ((i + 1 : Nat) : Int) := by push_cast; rfl
      wp_walk using wpAny_loadPart' hl, wpAny_loadPart' hb
      rw [hi1, hi2]
      refine wpAny_bind (EqAt.str_str ss[i] t ts[i] u prog w _ _ ?_)
      cases hq : (ss[i] == ts[i]) with
      | true =>
        wp_walk
        rw [hc]
        exact ⟨plainId_quiet plain_eq_loop _, codeAny_builtin entry_eq_loop (by
          rw [Around.under_plainId plain_eq_loop _]
          refine ih (i + 1) (by omega) (by omega) (by omega) prog w A R _ ⟨hl, hb, ?_⟩
          simpa [ltSS, hq] using h)⟩
      | false =>
        wp_walk using wpAny_loadPart' hl, wpAny_loadPart' hb
        rw [hi1, hi2]
        dsimp only
        refine wpAny_bind ?_
        refine lt_str (t := t) (u := u) ?_
        wp_walk
        simpa [ltSS, hq] using h
    · have hi2 : items2[((i : Nat) : Int).toNat]? = none := by simp; omega
      wp_walk using wpAny_loadPart' hl, wpAny_loadPart' hb
      rw [hi1, hi2]
      wp_walk using wpAny_loadPart' hl, wpAny_loadPart' hb
      show R (.ok (.ret (.bool (decide (items.size < items2.size))))) _
      have e : ts.drop i = [] := by simp; omega
      rw [drop_cons_of (List.getElem?_eq_getElem hlt), e] at h
      have : ¬ items.size < items2.size := by omega
      simpa [ltSS, this] using h
theorem list_ltAt (l b : Addr) (items items2 : Array Value) (n n2 : Nat) (dd dd2 : Option Addr) (sl sl2 : Array (Option Value)) (ss ts : List Str) (hs : StrsAre items.toList ss) (ht : StrsAre items2.toList ts) :
    Meets (Builtin.«list.__lt__» ⟨[.ref l, .ref b], []⟩)
      (fun _ R s => s.heap.get? l = some { cls := .type "list", dict := dd, data := .seq items n, slots := sl } ∧ s.heap.get? b = some { cls := .type "list", dict := dd2, data := .seq items2 n2, slots := sl2 } ∧
        R (.ok (.ret (.bool (ltSS ss ts)))) s) := by
  intro prog w A R s h
  obtain ⟨hp, g, d, tk, os⟩ := s; obtain ⟨hl, hb, h⟩ := h
  have f3 := AutoSeq1.sub_list_list
  wp_walk using wpAny_loadPart' hl, wpAny_loadPart' hb
  exact ⟨plainId_quiet plain_eq_loop _, codeAny_builtin entry_eq_loop (by
    rw [Around.under_plainId plain_eq_loop _]
    exact lt_loopAt l b items items2 n n2 dd dd2 sl sl2 ss ts hs ht _ 0 rfl (Nat.zero_le _) (Nat.zero_le _) prog w A R _ ⟨hl, hb, by simpa using h⟩)⟩
section
variable {prog : Program} {w : World} {A : Around} {E : Value → Shared → Prop} {s : Shared}
theorem rc_lt {l b : Addr} {vs ws : List Value} {n n2 : Nat} {ss ts : List Str} {Q : Value → Shared → Prop} (hl : s.heap.get? l = some (listOf vs.toArray n)) (hb : s.heap.get? b = some (listOf ws.toArray n2)) (hs : StrsAre vs ss) (ht : StrsAre ws ts) (hu : A.units < cLine)
    (h : Q (.bool (ltSS ss ts)) s) : wpAny (model prog w) A (richCompare .Lt (.ref l) (.ref b)) Q E s :=
  richCompare_meets_room (op := .Lt) ⟨_, hl, rfl⟩ ⟨_, hb, rfl⟩ F.slot_list_lt F.entry_list_lt (F.args_list_lt_2 _ _) (list_ltAt l b vs.toArray ws.toArray n n2 none none #[] #[] ss ts (by simpa using hs) (by simpa using ht))
    ⟨hl, hb, by show _ ∧ _; exact ⟨(fun e => by cases e), h⟩⟩ hu
theorem cmp_lt {l b : Addr} {vs ws : List Value} {n n2 : Nat} {ss ts : List Str} {Q : Value → Shared → Prop} (hl : s.heap.get? l = some (listOf vs.toArray n)) (hb : s.heap.get? b = some (listOf ws.toArray n2)) (hs : StrsAre vs ss) (ht : StrsAre ws ts) (hu : A.units < cLine)
    (h : Q (.bool (ltSS ss ts)) s) : wpAny (model prog w) A (compareOp .Lt (.ref l) (.ref b)) Q E s := rc_lt hl hb hs ht hu h
theorem one_lt {l b : Addr} {vs ws : List Value} {n n2 : Nat} {ss ts : List Str} {Q : Bool → Shared → Prop} (hl : s.heap.get? l = some (listOf vs.toArray n)) (hb : s.heap.get? b = some (listOf ws.toArray n2)) (hs : StrsAre vs ss) (ht : StrsAre ws ts) (hu : A.units < cLine)
    (h : Q (ltSS ss ts) s) : wpAny (model prog w) A (oneLt' true (.ref l) (.ref b)) Q E s := by
  rw [oneLt'_eq]
  simp only [if_true]
  refine wpAny_bind (wpAny_cRoomFor hu ?_)
  refine wpAny_bind (wpAny_callSpecialIfBound?_slot ⟨_, hl, rfl⟩ F.slot_list_lt (call_meets F.slot_list_lt ⟨_, hl, rfl⟩ F.entry_list_lt (F.args_list_lt_2 _ _) (list_ltAt l b vs.toArray ws.toArray n n2 none none #[] #[] ss ts (by simpa using hs) (by simpa using ht)) ⟨hl, hb, ?_⟩))
  exact wpAny_truthy_bool h
end
end Mine
end

section
open PySem PySem.W PyProof.Rows
set_option maxRecDepth 100000
namespace Mine
/-! names and paths: digits; the order of the names is the digits' -/
def nm : Nat → Str
  | 0 => Str.ofString "D"
  | 1 => Str.ofString "a"
  | _ => Str.ofString "b c"
def allP : List (List Nat) := [0, 1, 2].flatMap fun a => [a] :: [0, 1, 2].flatMap fun b => [a, b] :: [0, 1, 2].map fun c => [a, b, c]
def dg (ds : List Nat) (i : Nat) : Nat := match ds[i]? with | some d => d + 1 | none => 0
def code (ds : List Nat) : Nat := dg ds 0 * 16 + dg ds 1 * 4 + dg ds 2
theorem lt_code_all : ∀ ds ∈ allP, ∀ es ∈ allP, ltSS (ds.map nm) (es.map nm) = decide (code ds < code es) := by decide +kernel
theorem lt_code {ds es : List Nat} (h1 : ds ∈ allP) (h2 : es ∈ allP) : ltSS (ds.map nm) (es.map nm) = decide (code ds < code es) := lt_code_all ds h1 es h2
theorem code_inj : ∀ ds ∈ allP, ∀ es ∈ allP, code ds = code es → ds = es := by decide +kernel
theorem allP_iff_all : ∀ a ∈ [0, 1, 2], [a] ∈ allP ∧ ∀ b ∈ [0, 1, 2], [a, b] ∈ allP ∧ ∀ c ∈ [0, 1, 2], [a, b, c] ∈ allP := by decide
theorem three_mem {a : Nat} (h : a < 3) : a ∈ [0, 1, 2] := by
  have : a = 0 ∨ a = 1 ∨ a = 2 := by first | grind | omega
  rcases this with rfl | rfl | rfl <;> simp
theorem allP_of : ∀ {ds : List Nat}, 1 ≤ ds.length → ds.length ≤ 3 → (∀ d ∈ ds, d < 3) → ds ∈ allP
  | [], h, _, _ => by simp at h
  | [a], _, _, h => (allP_iff_all a (three_mem (h a (by simp)))).1
  | [a, b], _, _, h => ((allP_iff_all a (three_mem (h a (by simp)))).2 b (three_mem (h b (by simp)))).1
  | [a, b, c], _, _, h => ((allP_iff_all a (three_mem (h a (by simp)))).2 b (three_mem (h b (by simp)))).2 c (three_mem (h c (by simp)))
  | _ :: _ :: _ :: _ :: _, _, h, _ => by simp at h
theorem allP_shape : ∀ ds ∈ allP, 1 ≤ ds.length ∧ ds.length ≤ 3 ∧ ∀ d ∈ ds, d < 3 := by decide
end Mine
end

section
open PySem PySem.W PyProof.Rows
set_option maxRecDepth 100000
set_option maxHeartbeats 4000000
set_option Elab.async false
namespace Mine
theorem lookup_known {m : Str → Option Value} : ∀ (kv : List (Str × Value)), (∀ p ∈ kv, m p.1 = some p.2) → ∀ y, (kv.lookup y).or (m y) = m y
  | [], _, _ => rfl
  | (x, v) :: r, h, y => by
    by_cases q : y = x
    · subst q
      have e : List.lookup y ((y, v) :: r) = some v := by simp [List.lookup_cons]
      rw [e, h _ (.head _)]; rfl
    · have e : List.lookup y ((x, v) :: r) = List.lookup y r := by
        rw [List.lookup_cons]
        have : (y == x) = false := by simpa using q
        rw [this]
      rw [e]
      exact lookup_known r (fun p hp => h p (.tail _ hp)) y
/-- what is known of the frame's names, ahead of the rest -/
theorem fr_knowns {h₀ h : Heap} {L : Addr} {m : Str → Option Value} (kv : List (Str × Value)) (F : Fr h₀ L h m) (e : ∀ p ∈ kv, m p.1 = some p.2) : Fr h₀ L h (fun y => (kv.lookup y).or (m y)) := by
  have : (fun y => (kv.lookup y).or (m y)) = m := funext (lookup_known kv e)
  rw [this]; exact F
theorem sub_nil {α : Type} {l : List α} : ∀ p ∈ ([] : List α), p ∈ l := fun _ h => nomatch h
theorem sub_cons {α : Type} {a : α} {r l : List α} (h : a ∈ l) (hs : ∀ p ∈ r, p ∈ l) : ∀ p ∈ a :: r, p ∈ l := fun p hp => (List.mem_cons.mp hp).elim (fun e => e ▸ h) (hs p)
theorem sub_app {α : Type} {a b l : List α} (h1 : ∀ p ∈ a, p ∈ l) (h2 : ∀ p ∈ b, p ∈ l) : ∀ p ∈ a ++ b, p ∈ l := fun p hp => (List.mem_append.mp hp).elim (h1 p) (h2 p)
theorem sub_tl {α : Type} {b : α} {r l : List α} (h : ∀ p ∈ r, p ∈ l) : ∀ p ∈ r, p ∈ b :: l := fun p hp => .tail _ (h p hp)
theorem sub_l {α : Type} {r a b : List α} (h : ∀ p ∈ r, p ∈ a) : ∀ p ∈ r, p ∈ a ++ b := fun p hp => List.mem_append_left _ (h p hp)
theorem sub_r {α : Type} {r a b : List α} (h : ∀ p ∈ r, p ∈ b) : ∀ p ∈ r, p ∈ a ++ b := fun p hp => List.mem_append_right _ (h p hp)
theorem known_nil {m : Str → Option Value} : ∀ p ∈ ([] : List (Str × Value)), m p.1 = some p.2 := fun _ h => nomatch h
theorem known_cons {m : Str → Option Value} {k : Str} {v : Value} {r : List (Str × Value)} (h : m k = some v) (hs : ∀ p ∈ r, m p.1 = some p.2) : ∀ p ∈ (k, v) :: r, m p.1 = some p.2 := fun p hp => (List.mem_cons.mp hp).elim (fun e => by rw [e]; exact h) (hs p)
theorem news_sub {h₀ h : Heap} {L : Addr} {news news' : List (Addr × Obj)} (N : News h₀ L h news) (hs : ∀ p ∈ news', p ∈ news) : News h₀ L h news' := fun p hp => N p (hs p hp)
section
variable {prog : Program} {w : World} {A : Around} {E : Value → Shared → Prop} {s : Shared} {h₀ : Heap} {L l : Addr} {m : Str → Option Value} {rest : List (Addr × Obj)} {vs : List Value} {n i : Nat} {k : Int} {u : Tok} {v : Value}
theorem get_at {Q : Value → Shared → Prop}
    (ho : s.heap.get? l = some (listOf vs.toArray n)) (hk : k = (i : Nat)) (hx : vs[i]? = some v) (hz : vs.length < 100) (h : Q v s) : wpAny (model prog w) A (getItem (.ref l) (.int k u)) Q E s := by
  have hi := (List.getElem?_eq_some_iff.mp hx).1
  subst hk
  exact wpAny_getItem_list (PySem.IsL.isList ho) (by omega) (by omega) (by simpa using hx) h
theorem item_at {value slice : PySem.Expr} {Q : Value → Shared → Prop}
    (ho : s.heap.get? l = some (listOf vs.toArray n)) (hk : k = (i : Nat)) (hx : vs[i]? = some v) (hz : vs.length < 100) (h : Q v s)
    (hs : subscripted slice false (.ref l) (.int k u) = operate [.ref l, .int k u] (getItem (.ref l) (.int k u)) := by with_unfolding_all rfl) :
    wpAny (model prog w) A (subscriptTail value slice (.ref l) (.int k u)) Q E s :=
  tail_any (PySem.IsL.isList ho).typeIs slot_list_getitem.lookup (get_at ho hk hx hz h) hs
theorem set_at {Q : Unit → Shared → Prop} (F : Fr h₀ L s.heap m) (N : News h₀ L s.heap ((l, listOf vs.toArray n) :: rest)) (hoff : ∀ p ∈ rest, p.1 ≠ l) (hk : k = (i : Nat)) (hi : i < vs.length) (hz : vs.length < 100)
    (h : ∀ h', Fr h₀ L h' m → News h₀ L h' ((l, listOf (vs.set i v).toArray n) :: rest) → Q () { s with heap := h' }) : wpAny (model prog w) A (setItem (.ref l) (.int k u) v) Q E s := by
  have z := N _ (.head _)
  subst hk
  refine ki_setAt z.1 (by omega) (by omega) (by simp; omega) (h _ (F.change (Heap.SameBut.update ..) z.2.1 z.2.2) (ki_turn (pre := []) (post := rest) _ N (fun _ h => nomatch h) hoff ?_ ?_))
  · simp
  · simp
theorem pop_at {Q : Value → Shared → Prop} (F : Fr h₀ L s.heap m) (N : News h₀ L s.heap ((l, listOf (vs ++ [v]).toArray n) :: rest)) (hoff : ∀ p ∈ rest, p.1 ≠ l) (hz : vs.length < 100)
    (h : ∀ h', Fr h₀ L h' m → News h₀ L h' ((l, listOf vs.toArray (n + 1)) :: rest) → Q v { s with heap := h' }) : wpAny (model prog w) A (call (.builtin "list.pop") [.ref l]) Q E s := by
  refine kl_pop F N (p := vs) (y := v) ?_ (Upd.head hoff) (by rw [sizeLine_eq]; simp; omega) fun h' F' N' => h h' F' N'
  have e := kpa_last v vs
  simpa using e
theorem app_at {Q : Value → Shared → Prop} (F : Fr h₀ L s.heap m) (N : News h₀ L s.heap ((l, listOf vs.toArray n) :: rest)) (hoff : ∀ p ∈ rest, p.1 ≠ l) (hz : vs.length < 100)
    (h : ∀ h', Fr h₀ L h' m → News h₀ L h' ((l, listOf (vs ++ [v]).toArray (n + 1)) :: rest) → Q .none { s with heap := h' }) : wpAny (model prog w) A (call (.builtin "list.append") [.ref l, v]) Q E s := by
  have e : (vs ++ [v]).toArray = vs.toArray.push v := by simp
  refine append_K F N (by rw [← e]; exact Upd.head hoff) (fun h' F' N' => h h' F' N') (by rw [List.size_toArray, sizeLine_eq]; omega)
end
/-- a value is a path of the ledger; its code is κ's -/
def Good (rest : List (Addr × Obj)) (κ : Value → Nat) (v : Value) : Prop := ∃ a xs n ds, v = .ref a ∧ (a, listOf (List.toArray xs) n) ∈ rest ∧ StrsAre xs (List.map nm ds) ∧ ds ∈ allP ∧ κ v = code ds
theorem good_lt {prog : Program} {w : World} {A : Around} {E : Value → Shared → Prop} {s : Shared} {h₀ : Heap} {L : Addr} {rest news : List (Addr × Obj)} {κ : Value → Nat} {x y : Value} {Q : Value → Shared → Prop} (N : News h₀ L s.heap news) (hs : ∀ p ∈ rest, p ∈ news)
    (hx : Good rest κ x) (hy : Good rest κ y) (hu : A.units < cLine) (h : Q (.bool (decide (κ x < κ y))) s) : wpAny (model prog w) A (compareOp .Lt x y) Q E s := by
  obtain ⟨a, xs, n, ds, rfl, hm, h1, h2, h3⟩ := hx
  obtain ⟨b, ys, n', es, rfl, hm', h1', h2', h3'⟩ := hy
  refine cmp_lt (N _ (hs _ hm)).1 (N _ (hs _ hm')).1 h1 h1' hu ?_
  rw [lt_code h2 h2', ← h3, ← h3']
  exact h
theorem good_one {prog : Program} {w : World} {A : Around} {E : Value → Shared → Prop} {s : Shared} {h₀ : Heap} {L : Addr} {rest news : List (Addr × Obj)} {κ : Value → Nat} {x y : Value} {Q : Bool → Shared → Prop} (N : News h₀ L s.heap news) (hs : ∀ p ∈ rest, p ∈ news)
    (hx : Good rest κ x) (hy : Good rest κ y) (hu : A.units < cLine) (h : Q (decide (κ x < κ y)) s) : wpAny (model prog w) A (oneLt' true x y) Q E s := by
  obtain ⟨a, xs, n, ds, rfl, hm, h1, h2, h3⟩ := hx
  obtain ⟨b, ys, n', es, rfl, hm', h1', h2', h3'⟩ := hy
  refine one_lt (N _ (hs _ hm)).1 (N _ (hs _ hm')).1 h1 h1' hu ?_
  rw [lt_code h2 h2', ← h3, ← h3']
  exact h
end Mine
namespace Mine
theorem par_of {k : Nat} (h : 0 < k) : Int.fdiv ((k : Nat) - 1 : Int) (2 ^ (Int.toNat 1)) = (((k - 1) / 2 : Nat) : Int) := by
  have e : (2 : Int) ^ (Int.toNat 1) = 2 := by decide
  obtain ⟨j, rfl⟩ : ∃ j, k = j + 1 := ⟨k - 1, (Nat.succ_pred_eq_of_pos h).symm⟩
  rw [e, show ((j + 1 : Nat) : Int) - 1 = (j : Nat) from Int.add_sub_cancel (j : Int) 1, Int.fdiv_eq_ediv_of_nonneg _ (by decide)]
  rfl
end Mine
namespace Mine
theorem len_at {prog : Program} {w : World} {A : Around} {E : Value → Shared → Prop} {s : Shared} {l : Addr} {vs : List Value} {n : Nat} {Q : Value → Shared → Prop} (ho : s.heap.get? l = some (listOf vs.toArray n)) (hz : vs.length < 100)
    (h : Q (.int vs.length (s.toks + 1)) { s with toks := s.toks + 1 + 1 }) : wpAny (model prog w) A (call (.builtin "len") [.ref l]) Q E s := by
  have e : (List.toArray vs).size = vs.length := List.size_toArray ..
  exact PySem.Calls.call_len_list (PySem.IsL.isList ho) (by rw [e]; omega) (by rw [e]; exact h)
end Mine
end

section
open PySem PySem.W PyProof.Rows
set_option maxRecDepth 100000
namespace Mine
/-! the asked sort sorts: distinct keys -/
def kk (K : Nat → Nat) (p : Array Nat) (i : Nat) : Nat := K (p.getD i 0)
def Inc (K : Nat → Nat) (p : Array Nat) (m : Nat) : Prop := ∀ i j, i < j → j < m → kk K p i < kk K p j
def Dec (K : Nat → Nat) (p : Array Nat) (m : Nat) : Prop := ∀ i j, i < j → j < m → kk K p j < kk K p i
structure SortCx (K : Nat → Nat) (n : Nat) (cmp : Nat → Nat → (Bool → Shared → Prop) → Shared → Prop) (s : Shared) : Prop where
  ask : ∀ i j (C : Bool → Shared → Prop), i < n → j < n → C (decide (K i < K j)) s → cmp i j C s
  inj : ∀ i j, i < n → j < n → K i = K j → i = j
def Rng (n : Nat) (p : Array Nat) : Prop := p.toList.Perm (List.range n)
theorem Rng.size {n : Nat} {p : Array Nat} (h : Rng n p) : p.size = n := by
  have := h.length_eq
  simpa using this
theorem Rng.lt {n : Nat} {p : Array Nat} (h : Rng n p) {i : Nat} (hi : i < n) : p.getD i 0 < n := by
  have hs : i < p.size := by rw [h.size]; exact hi
  have e : p.getD i 0 = p[i] := by simp [Array.getD, hs]
  rw [e]
  have hm : p[i] ∈ p.toList := by simp
  have := h.mem_iff.mp hm
  simpa using this
theorem Rng.ne {n : Nat} {p : Array Nat} (h : Rng n p) {i j : Nat} (hi : i < n) (hj : j < n) (hne : i ≠ j) : p.getD i 0 ≠ p.getD j 0 := by
  have hs : i < p.size := by rw [h.size]; exact hi
  have ht : j < p.size := by rw [h.size]; exact hj
  have e : p.getD i 0 = p[i] := by simp [Array.getD, hs]
  have e' : p.getD j 0 = p[j] := by simp [Array.getD, ht]
  rw [e, e']
  have hn : p.toList.Nodup := h.nodup_iff.mpr List.nodup_range
  intro q
  have h1 : p.toList[i]'(by simpa using hs) = p.toList[j]'(by simpa using ht) := by simpa using q
  rcases Nat.lt_or_gt_of_ne hne with a | a
  · exact List.pairwise_iff_getElem.mp hn i j (by simpa using hs) (by simpa using ht) a h1
  · exact List.pairwise_iff_getElem.mp hn j i (by simpa using ht) (by simpa using hs) a h1.symm
section
variable {K : Nat → Nat} {n : Nat} {cmp : Nat → Nat → (Bool → Shared → Prop) → Shared → Prop} {s : Shared} {p : Array Nat}
theorem SortCx.askP {α : Type} {Q : α → Shared → Prop} {k : Bool → KasT α} (c : SortCx K n cmp s) (h : Rng n p) {i j : Nat} (hi : i < n) (hj : j < n) (hne : i ≠ j)
    (h1 : kk K p i < kk K p j → (k true).kasWp cmp Q s) (h2 : kk K p j < kk K p i → (k false).kasWp cmp Q s) : (KasT.ask (p.getD i 0) (p.getD j 0) k).kasWp cmp Q s := by
  refine c.ask _ _ _ (h.lt hi) (h.lt hj) ?_
  by_cases q : K (p.getD i 0) < K (p.getD j 0)
  · rw [decide_eq_true q]; exact h1 q
  · rw [decide_eq_false q]
    refine h2 (Nat.lt_of_le_of_ne (Nat.not_lt.mp q) fun e => ?_)
    exact h.ne hi hj hne (c.inj _ _ (h.lt hi) (h.lt hj) e.symm)
theorem asc_ok (c : SortCx K n cmp s) (h : Rng n p) {Q : Nat → Shared → Prop} : ∀ (f m : Nat), 1 ≤ m → m + f = n → Inc K p m → (∀ m', m ≤ m' → m' ≤ n → Inc K p m' → (m' = n ∨ kk K p m' < kk K p (m' - 1)) → Q m' s) → (kas_asc p f m).kasWp cmp Q s
  | 0, m, h1, hm, hI, hq => hq m (Nat.le_refl _) (by first | grind | omega) hI (.inl (by assumption))
  | f + 1, m, h1, hm, hI, hq => by
    refine c.askP h (i := m) (j := m - 1) (by first | grind | omega) (by first | grind | omega) (by exact Nat.ne_of_gt (Nat.sub_lt (by assumption) (by decide))) (fun q => ?_) fun q => ?_
    · exact hq m (Nat.le_refl _) (by first | grind | omega) hI (.inr q)
    · refine asc_ok c h f (m + 1) (by exact Nat.lt_succ_of_lt (by assumption)) (by first | grind | omega) (fun i j a b => ?_) fun m' a b d e => hq m' (by exact Nat.le_of_lt (by assumption)) b d e
      by_cases hj : j < m
      · exact hI i j a hj
      · have : j = m := by exact Nat.le_antisymm (Nat.le_of_lt_succ (by assumption)) (Nat.le_of_not_lt (by assumption))
        subst this
        by_cases hi : i = j - 1
        · rw [hi]; exact q
        · exact Nat.lt_trans (hI i (j - 1) (by exact Nat.lt_of_le_of_ne (Nat.le_sub_one_of_lt (by assumption)) (by assumption)) (by exact Nat.sub_lt (by assumption) (by decide))) q
theorem desc_ok (c : SortCx K n cmp s) (h : Rng n p) {Q : Array Nat × Nat × Nat → Shared → Prop} : ∀ (f m : Nat), 1 ≤ m → m + f = n → Dec K p m → (∀ m', m ≤ m' → m' ≤ n → Dec K p m' → Q (p, m', 0) s) → (kas_desc f p m 0).kasWp cmp Q s
  | 0, m, h1, hm, hI, hq => hq m (Nat.le_refl _) (by first | grind | omega) hI
  | f + 1, m, h1, hm, hI, hq => by
    refine c.askP h (i := m) (j := m - 1) (by first | grind | omega) (by first | grind | omega) (by exact Nat.ne_of_gt (Nat.sub_lt (by assumption) (by decide))) (fun q => ?_) fun q => ?_
    · show (if (true = true) then (if 0 > 0 then kas_desc f (kas_rev p (m - (0 + 1)) m) (m + 1) 0 else kas_desc f p (m + 1) 0) else _ : KasT _).kasWp cmp Q s
      rw [if_pos rfl, if_neg (by first | grind | omega)]
      refine desc_ok c h f (m + 1) (by exact Nat.lt_succ_of_lt (by assumption)) (by first | grind | omega) (fun i j a b => ?_) fun m' a b d => hq m' (by exact Nat.le_of_lt (by assumption)) b d
      by_cases hj : j < m
      · exact hI i j a hj
      · have : j = m := by exact Nat.le_antisymm (Nat.le_of_lt_succ (by assumption)) (Nat.le_of_not_lt (by assumption))
        subst this
        by_cases hi : i = j - 1
        · rw [hi]; exact q
        · exact Nat.lt_trans q (hI i (j - 1) (by exact Nat.lt_of_le_of_ne (Nat.le_sub_one_of_lt (by assumption)) (by assumption)) (by exact Nat.sub_lt (by assumption) (by decide)))
    · show (if (false = true) then _ else KasT.ask (p.getD (m - 1) 0) (p.getD m 0) fun d => if d = true then .ret (p, m, 0) else kas_desc f p (m + 1) (0 + 1) : KasT _).kasWp cmp Q s
      rw [if_neg (by simp)]
      refine c.askP h (i := m - 1) (j := m) (by first | grind | omega) (by first | grind | omega) (by exact Nat.ne_of_lt (Nat.sub_lt (by assumption) (by decide))) (fun _ => ?_) fun q' => ?_
      · rw [if_pos rfl]
        exact hq m (Nat.le_refl _) (by first | grind | omega) hI
      · exact absurd q' (Nat.lt_asymm q)
theorem getD_of {p p' : Array Nat} {i j : Nat} (h : p'[i]? = p[j]?) : p'.getD i 0 = p.getD j 0 := by
  simp only [Array.getD_eq_getD_getElem?, h]
theorem rev_rng {m : Nat} (h : Rng n p) : Rng n (kas_rev p 0 m) := (Array.perm_iff_toList_perm.mp (mirror_perm p 0 m ((m - 0) / 2))).trans h
theorem rev_inc {m : Nat} (h : Rng n p) (hm : m ≤ n) (hD : Dec K p m) : Inc K (kas_rev p 0 m) m := by
  intro i j a b
  have e : ∀ x, x < m → (kas_rev p 0 m).getD x 0 = p.getD (m - 1 - x) 0 := fun x hx => by
    refine getD_of ?_
    have z := getElem?_mirror_all (xs := p) (i := 0) (j := m) (by rw [h.size]; exact hm) x
    rw [if_pos ⟨Nat.zero_le _, hx⟩] at z
    have : 0 + m - 1 - x = m - 1 - x := by first | grind | omega
    rw [this] at z
    exact z
  unfold kk
  rw [e i (by exact Nat.lt_trans (by assumption) (by assumption)), e j b]
  exact hD (m - 1 - j) (m - 1 - i) (by exact Nat.sub_lt_sub_left (Nat.lt_of_lt_of_le (by assumption) (Nat.le_sub_one_of_lt (by assumption))) (by assumption)) (by first | grind | omega)
theorem tail3_ok (c : SortCx K n cmp s) (h : Rng n p) {m : Nat} (h1 : 1 ≤ m) (hm : m ≤ n) (hD : Dec K p m) {Q : Nat × Array Nat → Shared → Prop} (hq : ∀ m' p', 1 ≤ m' → m' ≤ n → Rng n p' → Inc K p' m' → Q (m', p') s) : (kas_tail3 m n p).kasWp cmp Q s := by
  unfold kas_tail3
  rw [KasT.kasWp_bind]
  exact asc_ok c (rev_rng h) (n - m) m h1 (by exact Nat.add_sub_of_le (by assumption)) (rev_inc h hm hD) fun m' a b d _ => hq m' _ (by exact Nat.lt_of_lt_of_le (by assumption) (by assumption)) b (rev_rng h) d
theorem count_ok (c : SortCx K n cmp s) (h : Rng n p) (h2 : 1 ≤ n) {Q : Nat × Array Nat → Shared → Prop} (hq : ∀ m' p', 1 ≤ m' → m' ≤ n → Rng n p' → Inc K p' m' → Q (m', p') s) : (kas_count n p).kasWp cmp Q s := by
  unfold kas_count
  rw [KasT.kasWp_bind]
  refine asc_ok c h (n - 1) 1 (Nat.le_refl _) (by exact Nat.add_sub_of_le (by assumption)) (fun i j a b => by first | grind | omega) fun m a b d e => ?_
  by_cases q : (m == n) = true
  · rw [if_pos q]
    exact hq m p a b h d
  · rw [if_neg q]
    have hlt : m < n := by
      have : m ≠ n := fun e => q (by rw [e]; exact beq_self_eq_true _)
      omega
    by_cases r : m > 1
    · rw [if_pos r]
      refine c.askP h (i := 0) (j := m - 1) (by assumption) (by exact Nat.lt_of_le_of_lt (Nat.sub_le _ _) (by assumption)) (by first | grind | omega) (fun _ => ?_) fun z => ?_
      · rw [if_pos rfl]; exact hq m p a b h d
      · exact absurd z (Nat.lt_asymm (d 0 (m - 1) (by exact Nat.le_sub_one_of_lt (by assumption)) (by exact Nat.sub_lt (by assumption) (by decide))))
    · rw [if_neg r]
      have hm : m = 1 := by first | grind | omega
      subst hm
      have e' : kk K p 1 < kk K p 0 := e.resolve_left (by exact Nat.ne_of_lt (by assumption))
      unfold kas_descPart
      rw [KasT.kasWp_bind]
      refine desc_ok c h (n - (1 + 1)) (1 + 1) (by exact Nat.lt_succ_of_lt (by assumption)) (by exact Nat.add_sub_of_le (by assumption)) (fun i j a b => ?_) fun m' a b d => ?_
      · have : i = 0 ∧ j = 1 := by first | grind | omega
        rw [this.1, this.2]; exact e'
      · rw [if_neg (by simp)]
        exact tail3_ok c h (by exact Nat.le_of_lt (by assumption)) b d hq
theorem place_ok (c : SortCx K n cmp s) (h : Rng n p) {k : Nat} (hk : k < n) (hI : Inc K p k) {Q : Nat → Shared → Prop} : ∀ (f l r : Nat), l ≤ r → r ≤ k → r - l ≤ f → (∀ i, i < l → kk K p i < kk K p k) → (∀ i, r ≤ i → i < k → kk K p k < kk K p i) →
    (∀ l, l ≤ k → (∀ i, i < l → kk K p i < kk K p k) → (∀ i, l ≤ i → i < k → kk K p k < kk K p i) → Q l s) → (kas_place p k f l r).kasWp cmp Q s
  | 0, l, r, hl, hr, hf, a, b, hq => hq l (by exact Nat.le_trans (by assumption) (by assumption)) a fun i x y => b i (by first | grind | omega) y
  | f + 1, l, r, hl, hr, hf, a, b, hq => by
    unfold kas_place
    by_cases q : l ≥ r
    · rw [if_pos q]
      exact hq l (by exact Nat.le_trans (by assumption) (by assumption)) a fun i x y => b i (by exact Nat.le_trans (by assumption) (by assumption)) y
    · rw [if_neg q]
      refine c.askP h (i := k) (j := (l + r) / 2) hk (by first | grind | omega) (by first | grind | omega) (fun z => ?_) fun z => ?_
      · rw [if_pos rfl]
        refine place_ok c h hk hI f l ((l + r) / 2) (by first | grind | omega) (by first | grind | omega) (by first | grind | omega) a (fun i x y => ?_) hq
        by_cases e : i = (l + r) / 2
        · rw [e]; exact z
        · exact Nat.lt_trans z (hI _ _ (by first | grind | omega) (by assumption))
      · rw [if_neg (by simp)]
        refine place_ok c h hk hI f ((l + r) / 2 + 1) r (by first | grind | omega) hr (by first | grind | omega) (fun i x => ?_) b hq
        by_cases e : i = (l + r) / 2
        · rw [e]; exact z
        · exact Nat.lt_trans (hI i ((l + r) / 2) (by exact Nat.lt_of_le_of_ne (Nat.le_sub_one_of_lt (by assumption)) (by assumption)) (by first | grind | omega)) z
theorem bin_ok (c : SortCx K n cmp s) {Q : Array Nat → Shared → Prop} : ∀ (f k : Nat) (p : Array Nat), 1 ≤ k → k + f = n → Rng n p → Inc K p k → (∀ p', Rng n p' → Inc K p' n → Q p' s) → (kas_bin f p k).kasWp cmp Q s
  | 0, k, p, _, hk, h, hI, hq => hq p h (by have : k = n := by assumption
                                            subst this; exact hI)
  | f + 1, k, p, h1, hk, h, hI, hq => by
    unfold kas_bin
    rw [KasT.kasWp_bind]
    refine place_ok c h (by first | grind | omega) hI k 0 k (Nat.zero_le _) (Nat.le_refl _) (by exact Nat.le_refl _) (fun i x => absurd x (Nat.not_lt_zero _)) (fun i x y => by first | grind | omega) fun l hl a b => ?_
    have hb : ∀ x, x < k + 1 → (bubble p k (k - l)).getD x 0 = if x = l then p.getD k 0 else if l < x then p.getD (x - 1) 0 else p.getD x 0 := fun x hx => by
      have z := getElem?_bubble (xs := p) (src := k) (by rw [h.size]; omega) (k - l) (by exact Nat.sub_le _ _) x
      have e : k - (k - l) = l := by exact Nat.sub_sub_self (by assumption)
      rw [e] at z
      by_cases q : x = l
      · rw [if_pos q] at z ⊢; exact getD_of z
      · rw [if_neg q] at z ⊢
        by_cases r : l < x
        · rw [if_pos ⟨r, by exact Nat.le_of_lt_succ (by assumption)⟩] at z; rw [if_pos r]; exact getD_of z
        · rw [if_neg (by first | grind | omega)] at z; rw [if_neg r]; exact getD_of z
    refine bin_ok c f (k + 1) _ (by exact Nat.lt_succ_of_lt (by assumption)) (by first | grind | omega) ((Array.perm_iff_toList_perm.mp (bubble_perm p k (k - l))).trans h) (fun i j x y => ?_) hq
    unfold kk
    rw [hb i (by exact Nat.lt_trans (by assumption) (by assumption)), hb j y]
    by_cases q : i = l
    · rw [if_pos q, if_neg (by first | grind | omega), if_pos (by first | grind | omega)]
      exact b (j - 1) (by first | grind | omega) (by first | grind | omega)
    · rw [if_neg q]
      by_cases r : j = l
      · rw [if_pos r, if_neg (by first | grind | omega)]
        exact a i (by first | grind | omega)
      · rw [if_neg r]
        by_cases t : l < i
        · rw [if_pos t, if_pos (by exact Nat.lt_trans (by assumption) (by assumption))]; exact hI _ _ (by exact Nat.sub_lt_sub_right (Nat.lt_of_le_of_lt (Nat.zero_le _) (by assumption)) (by assumption)) (by first | grind | omega)
        · rw [if_neg t]
          by_cases u : l < j
          · rw [if_pos u]
            exact Nat.lt_trans (a i (by exact Nat.lt_of_le_of_ne (Nat.not_lt.mp (by assumption)) (by assumption))) (b (j - 1) (by exact Nat.le_sub_one_of_lt (by assumption)) (by exact Nat.sub_lt_sub_right (Nat.lt_of_le_of_lt (Nat.zero_le _) (by assumption)) (by assumption)))
          · rw [if_neg u]; exact hI _ _ x (by first | grind | omega)
theorem sort_ok (c : SortCx K n cmp s) (h1 : 1 ≤ n) {Q : Array Nat → Shared → Prop} (hq : ∀ p, Rng n p → Inc K p n → Q p s) : (kas_sort n).kasWp cmp Q s := by
  unfold kas_sort
  rw [KasT.kasWp_bind]
  refine count_ok c (p := List.toArray (List.range n)) (List.Perm.refl _) h1 fun m p a b h hI => ?_
  by_cases q : m < n
  · show (if m < n then kas_bin (n - max m 1) p (max m 1) else KasT.ret p).kasWp cmp Q s
    rw [if_pos q]
    have e : max m 1 = m := by first | grind | omega
    rw [e]
    exact bin_ok c (n - m) m p a (by exact Nat.add_sub_of_le (by assumption)) h hI hq
  · show (if m < n then kas_bin (n - max m 1) p (max m 1) else KasT.ret p).kasWp cmp Q s
    rw [if_neg q]
    have e : m = n := by exact Nat.le_antisymm (by assumption) (Nat.not_lt.mp (by assumption))
    subst e
    exact hq p h hI
end
end Mine
end

section
open PySem PySem.W PyProof.Rows
set_option maxRecDepth 100000
namespace Mine
/-! rows: blanks, a core, blanks -/
def rowL (f : Nat) (core : List Nat) (b : Nat) : Str := ⟨(List.replicate f 32 ++ core ++ List.replicate b 32).toArray⟩
structure CoreOk (core : List Nat) : Prop where
  pos : 0 < core.length
  first : core[0]? ≠ some 32
  last : core[core.length - 1]? ≠ some 32
theorem rowL_length (f : Nat) (core : List Nat) (b : Nat) : (rowL f core b).length = f + core.length + b := by
  show (List.replicate f 32 ++ core ++ List.replicate b 32).toArray.size = _
  simp
  omega
theorem item_blank {x : Str} {i : Int} {c : Nat} (h0 : 0 ≤ i) (h : x.cps[i.toNat]? = some c) : (Txt.item x i == Str.ofString " ") = (c == 32) := by
  have e1 : Txt.charAt x i = some c := StrLaws.at_nonneg h0 h
  have e2 : Str.ofString " " = ⟨#[32]⟩ := by decide
  unfold Txt.item
  rw [e1, e2]
  by_cases q : c = 32
  · subst q; simp
  · have : ((⟨#[c]⟩ : Str) == ⟨#[32]⟩) = false := by
      simp [q]
    simp only [Option.getD_some, this]
    simp [q]
theorem row_front {f b : Nat} {core : List Nat} (hc : CoreOk core) {i : Int} {k : Nat} (hi : i = (k : Nat)) (hk : k ≤ f) : (Txt.item (rowL f core b) i == Str.ofString " ") = decide (k < f) := by
  subst hi
  by_cases q : k < f
  · rw [item_blank (c := 32) (by exact Int.natCast_nonneg _)]
    · simp [q]
    · show (List.replicate f 32 ++ core ++ List.replicate b 32).toArray[k]? = _
      rw [List.getElem?_toArray, List.append_assoc, List.getElem?_append_left (by simpa using q)]
      simp [q]
  · have e : k = f := by exact Nat.le_antisymm (by assumption) (Nat.not_lt.mp (by assumption))
    subst e
    obtain ⟨c, hcc⟩ : ∃ c, core[0]? = some c := ⟨_, List.getElem?_eq_getElem hc.pos⟩
    rw [item_blank (c := c) (by exact Int.natCast_nonneg _)]
    · have : c ≠ 32 := fun h => hc.first (by rw [hcc, h])
      simp [this]
    · show (List.replicate k 32 ++ core ++ List.replicate b 32).toArray[k]? = _
      rw [List.getElem?_toArray, List.append_assoc, List.getElem?_append_right (by simp)]
      simp only [List.length_replicate, Nat.sub_self]
      rw [List.getElem?_append_left hc.pos]; exact hcc
theorem row_back {f b : Nat} {core : List Nat} (hc : CoreOk core) {i : Int} {k : Nat} (hi : i = ((f + core.length + b : Nat) : Int) - 1 - (k : Nat)) (hk : k ≤ b) : (Txt.item (rowL f core b) i == Str.ofString " ") = decide (k < b) := by
  have hp := hc.pos
  have e : i.toNat = f + core.length + b - 1 - k := by rw [hi]; exact toNat1 _ _
  by_cases q : k < b
  · rw [item_blank (c := 32) (by first | grind | omega)]
    · simp [q]
    · show (List.replicate f 32 ++ core ++ List.replicate b 32).toArray[i.toNat]? = _
      rw [List.getElem?_toArray, List.getElem?_append_right (by simp; omega)]
      rw [e, List.getElem?_replicate, if_pos (by rw [List.length_append, List.length_replicate]; omega)]
  · have ek : k = b := by exact Nat.le_antisymm (by assumption) (Nat.not_lt.mp (by assumption))
    subst ek
    obtain ⟨c, hcc⟩ : ∃ c, core[core.length - 1]? = some c := ⟨_, List.getElem?_eq_getElem (by exact Nat.sub_lt (by assumption) (by decide))⟩
    rw [item_blank (c := c) (by first | grind | omega)]
    · have : c ≠ 32 := fun h => hc.last (by rw [hcc, h])
      simp [this]
    · show (List.replicate f 32 ++ core ++ List.replicate k 32).toArray[i.toNat]? = _
      rw [List.getElem?_toArray, List.getElem?_append_left (by simp; omega), List.getElem?_append_right (by simp; omega), e]
      simp only [List.length_replicate]
      have : f + core.length + k - 1 - k - f = core.length - 1 := by first | grind | omega
      rw [this]; exact hcc
theorem slice_cps {x : Str} {i j : Int} {a b : Nat} (hi : i = (a : Nat)) (hj : j = (b : Nat)) (hab : a ≤ b) (hb : b ≤ x.length) : Txt.slice x (some i) (some j) = ⟨((x.cps.toList.drop a).take (b - a)).toArray⟩ := by
  subst hi hj
  exact StrLaws.sliceText_nat x hab hb
theorem row_slice {f b : Nat} {core : List Nat} {i j : Int} {n i0 j0 : Nat} (hi : i = (i0 : Nat)) (hj : j = ((f + core.length + b : Nat) : Int) - 1 - (j0 : Nat)) (hp : 0 < core.length)
    (h : (n ≤ f ∧ i0 = n ∧ j0 = 0) ∨ (f ≤ n ∧ i0 = f ∧ (j0 = n - f ∧ n - f ≤ b ∨ j0 = b ∧ b ≤ n - f))) :
    Txt.slice (rowL f core b) (some i) (some (j + 1)) = rowL (f - n) core (b - (n - f)) := by
  have hb : i0 ≤ f ∧ j0 ≤ b := by
    rcases h with ⟨h1, rfl, rfl⟩ | ⟨_, rfl, ⟨rfl, h2⟩ | ⟨rfl, _⟩⟩
    · exact ⟨h1, Nat.zero_le _⟩
    · exact ⟨Nat.le_refl _, h2⟩
    · exact ⟨Nat.le_refl _, Nat.le_refl _⟩
  have hj' : j + 1 = ((f + core.length + b - j0 : Nat) : Int) := by
    have hb' := hb.2
    clear h hi hp hb
    omega
  have hl : i0 ≤ f + core.length + b - j0 := by
    rw [Nat.add_sub_assoc hb.2]
    exact Nat.le_trans hb.1 (Nat.le_trans (Nat.le_add_right _ _) (Nat.le_add_right _ _))
  rw [slice_cps (b := f + core.length + b - j0) hi hj' hl (by rw [rowL_length]; exact Nat.sub_le _ _)]
  have hjb := hb.2
  clear hb hj' hl
  show (⟨(List.take (f + core.length + b - j0 - i0) (List.drop i0 (List.replicate f 32 ++ core ++ List.replicate b 32))).toArray⟩ : Str) = ⟨(List.replicate (f - n) 32 ++ core ++ List.replicate (b - (n - f)) 32).toArray⟩
  congr 2
  rcases h with ⟨h1, rfl, rfl⟩ | ⟨h1, rfl, h2⟩
  · have e1 : List.drop i0 (List.replicate f 32 ++ core ++ List.replicate b 32) = List.replicate (f - i0) 32 ++ core ++ List.replicate b 32 := by
      rw [List.append_assoc, List.drop_append_of_le_length (by simpa using h1), List.drop_replicate, List.append_assoc]
    rw [e1, List.take_of_length_le (by simp; omega)]
    have : b - (i0 - f) = b := by rw [Nat.sub_eq_zero_of_le h1, Nat.sub_zero]
    rw [this]
  · have e1 : List.drop i0 (List.replicate i0 32 ++ core ++ List.replicate b 32) = core ++ List.replicate b 32 := by
      rw [List.append_assoc, List.drop_append_of_le_length (by simp)]; simp
    rw [e1]
    have e2 : i0 + core.length + b - j0 - i0 = core.length + (b - j0) := by
      rw [Nat.add_assoc, Nat.sub_right_comm, Nat.add_sub_cancel_left, Nat.add_sub_assoc hjb]
    rw [e2, List.take_length_add_append, List.take_replicate]
    have e3 : i0 - n = 0 := Nat.sub_eq_zero_of_le h1
    have e4 : min (b - j0) b = b - (n - i0) := by
      rw [Nat.min_eq_left (Nat.sub_le _ _)]
      rcases h2 with ⟨rfl, _⟩ | ⟨rfl, h⟩
      · rfl
      · rw [Nat.sub_self, Nat.sub_eq_zero_of_le h]
    rw [e3, e4]; simp
end Mine
end

section
open PySem PySem.W PyProof.Rows
set_option maxRecDepth 100000
namespace Mine
def baseS (x : Str) : Str := Txt.slice x (some (Txt.rfind x (Str.ofString "/") + 1)) none
def headS (x : Str) : Str := Txt.slice x none (some (Txt.rfind x (Str.ofString "/") + 1))
def dirS (x : Str) : Str := if (headS x).length = 0 then headS x else if (headS x != Txt.mul (Str.ofString "/") (headS x).length) = true then Txt.rstripChars (headS x) (Str.ofString "/") else headS x
def joinS (x y : Str) : Str := if Txt.endswith x (Str.ofString "/") = true then x ++ y else x ++ (Str.ofString "/" ++ y)
def pathS (ds : List Nat) : Str := if ds = [] then Str.ofString "/" else ds.foldl (fun s d => s ++ (Str.ofString "/" ++ nm d)) Str.empty
theorem base_path : ∀ ds ∈ allP, baseS (pathS ds) = nm (ds.getLastD 0) := by decide +kernel
theorem dir_path : ∀ ds ∈ allP, dirS (pathS ds) = pathS ds.dropLast := by decide +kernel
theorem join_path : ∀ ds ∈ allP, joinS (pathS ds.dropLast) (nm (ds.getLastD 0)) = pathS ds := by decide +kernel
theorem path_len : ∀ ds ∈ [] :: allP, (pathS ds).length ≠ 0 ∧ (pathS ds).length < 100 := by decide +kernel
theorem path_inj : ∀ ds ∈ [] :: allP, ∀ es ∈ [] :: allP, pathS ds = pathS es → ds = es := by decide +kernel
theorem nm_slash : ∀ d ∈ [0, 1, 2], Txt.startswith (nm d) (Str.ofString "/") = false ∧ (nm d).length < 4 ∧ (nm d).length ≠ 0 := by decide +kernel
theorem path_last : ∀ ds ∈ allP, ds.getLastD 0 ∈ [0, 1, 2] := by decide
theorem path_drop : ∀ ds ∈ allP, ds.dropLast ∈ [] :: allP ∧ ds.dropLast ++ [ds.getLastD 0] = ds := by decide
end Mine
end

section
open PySem PySem.W PyProof.Rows
set_option maxRecDepth 100000
set_option maxHeartbeats 4000000
set_option Elab.async false
namespace Mine
theorem kind_isc_nested : builtinKind "issubclass.nested" = none := by decide +kernel
theorem plain_isc_nested : plainId "issubclass.nested" = true := by decide +kernel
theorem args_isc_nested (a b c : Value) : argsOk "issubclass.nested" ⟨[a, b, c], []⟩ := by unfold argsOk; kernel_rfl
theorem isc_str_self (k : Int) (tk : Tok) : Meets (Builtin.«issubclass.nested» ⟨[.type "str", .type "str", .int k tk], []⟩) (fun _ R s => R (.ok (.ret (.bool true))) s) := by
  intro prog w A R s h
  have hm : typeOf (.type "str") = pure (.type "type") := by rfl
  have hs := isSubtype_str_str
  obtain ⟨hp, g, d, t, os⟩ := s
  wp_walk
  exact h
theorem isc_str_tuple (tp : Addr) (items : Array Value) (rest : List Value) (hit : items.toList = .type "str" :: rest) (n : Nat) : Meets (Builtin.«issubclass.nested» ⟨[.type "str", .ref tp, rawInt 0], []⟩)
    (fun _ R s => s.heap.get? tp = some { cls := .type "tuple", data := .seq items n } ∧ R (.ok (.ret (.bool true))) s) := by
  intro prog w A R s h
  obtain ⟨hp, g, d, t, os⟩ := s
  obtain ⟨ht, h⟩ := h
  have hT2 : (⟨hp, g, d, t, os⟩ : Shared).TypeIs (.ref tp) "tuple" := ⟨_, ht, rfl⟩
  have f1 := F.isi_sub_tuple
  repeat (any_goals (first | assumption | wp_step))
  refine wpAny_arrayLoop ?_
  simp only [Option.getD_some]
  rw [hit, List.forIn_cons]
  refine wpAny_bind (wpAny_bind (call_function_meets kind_isc_nested plain_isc_nested F.entry_issubclass_nested (args_isc_nested _ _ _) (isc_str_self _ _) ?_))
  show wpAny _ _ (truthy (.bool true) >>= _) _ _ _
  refine wpAny_bind (m := truthy (.bool true)) (wpAny_pure ?_)
  refine wpAny_bind (wpAny_pure (wpAny_pure (wpAny_pure ?_)))
  repeat (any_goals (first | assumption | wp_step))
theorem call_isc_str {prog : Program} {w : World} {A : Around} {E : Value → Shared → Prop} {s : Shared} {tp : Addr} {c2 : Value} {n : Nat} {Q : Value → Shared → Prop}
    (ht : s.heap.get? tp = some { cls := .type "tuple", data := .seq (List.toArray [.type "str", c2]) n }) (h : Q (.bool true) s) : wpAny (model prog w) A (call (.builtin "issubclass") [.type "str", .ref tp]) Q E s :=
  call_issubclass (S := fun _ R s => s.heap.get? tp = some { cls := .type "tuple", data := .seq (List.toArray [.type "str", c2]) n } ∧ R (.ok (.ret (.bool true))) s) (fun prog w A R s hs => issubclass_outer (isc_str_tuple tp _ [c2] rfl n prog w A R s hs)) ⟨ht, h⟩
end Mine
end

section
open PySem PySem.W PyProof.Rows PySem.Spec
set_option maxRecDepth 100000
set_option maxHeartbeats 4000000
set_option Elab.async false
namespace Mine
/-- a turn's end: own is what the loop itself holds, news' the rest -/
def TurnEnd (h₀ : Heap) (L I : Addr) (own : List (Addr × Obj)) (Jn : (Str → Option Value) → List (Addr × Obj) → Prop) (s₁ : Shared) (Q : Flow → Shared → Prop) (f : Flow) (s₂ : Shared) : Prop :=
  match f with
  | .ret v => Q (.ret v) s₂
  | .brk => Q .next s₂
  | _ => ∃ h' tk m' news', s₂ = { s₁ with heap := h', toks := tk } ∧ Fr h₀ L h' m' ∧ News h₀ L h' (own ++ news') ∧ (∀ p ∈ news', p.1 ≠ I) ∧ Jn m' news'
section
variable {prog : Program} {w : World} {A : Around} {E : Value → Shared → Prop} {s : Shared} {env : Env} {h₀ : Heap} {x : Str} {body : List Stmt} {Q : Flow → Shared → Prop}
theorem loop_walk {I : Addr} {fp : List Addr} {n : Nat} {P : Nat → Value → Prop} {St : Nat → Heap → Prop} {m₀ : Str → Option Value} {news : List (Addr × Obj)} (J : Nat → (Str → Option Value) → List (Addr × Obj) → Prop)
    (W : Walks prog w A I fp [I] n P St) (hSt : ∀ i h, St i h → ∃ o, h.get? I = some o) (hI : I ∈ fp) (hfp : env.locals ∉ fp) (hI0 : h₀.get? I = none) (st0 : St 0 s.heap) (F : Fr h₀ env.locals s.heap m₀) (N : News h₀ env.locals s.heap news) (hnI : ∀ p ∈ news, p.1 ≠ I) (hj : J 0 m₀ news)
    (turn : ∀ i v m₁ news₁ h tk own oI, i < n → P i v → J i m₁ news₁ → (I, oI) ∈ own → (∀ p ∈ own, p.1 ∈ fp) → (∀ p ∈ news₁, p.1 ≠ I) → Fr h₀ env.locals h (fun y => if y = x then some v else m₁ y) → News h₀ env.locals h (own ++ news₁) →
      wpAny (model prog w) A (execs body env) (TurnEnd h₀ env.locals I own (J (i + 1)) { s with heap := h, toks := tk } Q) E { s with heap := h, toks := tk })
    (done : ∀ m₁ news₁ h tk, J n m₁ news₁ → Fr h₀ env.locals h m₁ → News h₀ env.locals h news₁ → Q .next { s with heap := h, toks := tk }) :
    LoopAtV prog w A h₀ env x body Q E (.ref I) s := by
  refine ⟨I, fp, [I], n, P, St, m₀, news, J, rfl, W, hfp, ?_, ?_, st0, F, N, hj, ?_, ?_⟩
  · intro b hb
    rw [List.mem_singleton.mp hb]; exact hI0
  · intro p hp hb
    exact hnI p hp (List.mem_singleton.mp hb)
  · rintro i v m₁ news₁ s₁ own ⟨h, tk, rfl⟩ hi hP hJ hnw hofp _ hown st F₁ N₁
    obtain ⟨oI, hoI⟩ := hSt _ _ st
    refine wpAny_mono (turn i v m₁ news₁ h tk own oI hi hP hJ (hown I hI hI0 oI hoI) hofp (fun p hp q => hnw p hp (by rw [q]; exact List.mem_singleton_self _)) F₁ N₁) (fun f s₂ p => ?_) fun _ _ e => e
    have fin : (∃ h' tk' m' news', s₂ = { s with heap := h', toks := tk' } ∧ Fr h₀ env.locals h' m' ∧ News h₀ env.locals h' (own ++ news') ∧ (∀ p ∈ news', p.1 ≠ I) ∧ J (i + 1) m' news') →
        LoopStepU h₀ env.locals [I] own (J (i + 1)) { s with heap := h, toks := tk } .next s₂ := by
      rintro ⟨h', tk', m', news', e, F', N', hn, hm⟩
      exact ⟨rfl, h', tk', m', news', e, F', N', fun p hp hq => hn p hp (List.mem_singleton.mp hq), hm⟩
    cases f with
    | ret v => exact .ret p
    | brk => exact .brk p
    | next => exact .next (fin p)
    | cont => exact .cont (fin p)
  · rintro h' tk m' news' F' N' _ hJ
    exact done m' news' h' tk hJ F' N'
theorem fresh_none {h₀ h : Heap} {L : Addr} {m : Str → Option Value} (F : Fr h₀ L h m) : h₀.get? h.objs.size = none := by
  cases q : h₀.get? h.objs.size with
  | none => rfl
  | some o => exact absurd (Heap.lt_size (F.keep _ _ q)) (Nat.lt_irrefl _)
theorem news_pushed {h₀ h : Heap} {L : Addr} {news : List (Addr × Obj)} (N : News h₀ L h news) (o : Obj) : News h₀ L (h.push o) news := fun p hp => ⟨Heap.get?_push_of_some _ (N p hp).1, (N p hp).2⟩
theorem iter_list {l : Addr} {vs : List Value} {c : Nat} {m₀ : Str → Option Value} {news : List (Addr × Obj)} (J : Nat → (Str → Option Value) → List (Addr × Obj) → Prop)
    (hh : A.handled = none) (F : Fr h₀ env.locals s.heap m₀) (N : News h₀ env.locals s.heap news) (hl : (l, listOf vs.toArray c) ∈ news) (hj : J 0 m₀ news)
    (turn : ∀ i v m₁ news₁ h tk own I oI, vs[i]? = some v → J i m₁ news₁ → (I, oI) ∈ own → l < I → (∀ p ∈ own, p.1 = I ∨ p.1 = l) → (∀ p ∈ news₁, p.1 ≠ I) → Fr h₀ env.locals h (fun y => if y = x then some v else m₁ y) → News h₀ env.locals h (own ++ news₁) →
      wpAny (model prog w) A (execs body env) (TurnEnd h₀ env.locals I own (J (i + 1)) { s with heap := h, toks := tk } Q) E { s with heap := h, toks := tk })
    (done : ∀ m₁ news₁ h tk, J vs.length m₁ news₁ → Fr h₀ env.locals h m₁ → News h₀ env.locals h news₁ → Q .next { s with heap := h, toks := tk }) :
    wpAny (model prog w) A (pyIter (.ref l)) (fun it s₂ => LoopAtV prog w A h₀ env x body Q E it s₂) E s := by
  have hls : s.heap.IsList l vs.toArray := PySem.IsL.isList (N _ hl).1
  have hlt : l < s.heap.objs.size := Heap.lt_size (N _ hl).1
  refine wpAny_pyIter_list hls ?_
  have W := Walks.list (prog := prog) (w := w) hh s.heap.objs.size l (Nat.ne_of_lt hlt) vs.toArray
  rw [List.size_toArray] at W
  refine loop_walk J W (fun i h st => ?_) (by simp) ?_ (fresh_none F) ⟨⟨_, Heap.get?_push_size _ rfl, rfl, rfl⟩, hls.at fun o e => Heap.get?_push_of_some _ e⟩ (F.push _) (news_pushed N _) (fun p hp => Nat.ne_of_lt (Heap.lt_size (N p hp).1)) hj ?_ ?_
  · obtain ⟨o, ho, _⟩ := st.1
    exact ⟨o, ho⟩
  · intro hm
    rcases List.mem_cons.mp hm with e | hm
    · exact absurd F.ns.lt (by rw [e]; exact Nat.lt_irrefl _)
    · exact (N _ hl).2.1 (List.mem_singleton.mp hm).symm
  · intro i v m₁ news₁ h tk own oI hi hP hJ hI hofp hnI F₁ N₁
    refine turn i v m₁ news₁ h tk own _ oI (by simpa using hP) hJ hI hlt (fun p hp => ?_) hnI F₁ N₁
    have := hofp p hp
    simpa using this
  · intro m₁ news₁ h tk hJ F₁ N₁
    exact done m₁ news₁ h tk hJ F₁ N₁
theorem iter_tuple {l : Addr} {vs : List Value} {m₀ : Str → Option Value} {news : List (Addr × Obj)} (J : Nat → (Str → Option Value) → List (Addr × Obj) → Prop)
    (hh : A.handled = none) (F : Fr h₀ env.locals s.heap m₀) (N : News h₀ env.locals s.heap news) (hl : (l, ({ cls := .type "tuple", data := .seq vs.toArray } : Obj)) ∈ news) (hj : J 0 m₀ news)
    (turn : ∀ i v m₁ news₁ h tk own I oI, vs[i]? = some v → J i m₁ news₁ → (I, oI) ∈ own → l < I → (∀ p ∈ own, p.1 = I ∨ p.1 = l) → (∀ p ∈ news₁, p.1 ≠ I) → Fr h₀ env.locals h (fun y => if y = x then some v else m₁ y) → News h₀ env.locals h (own ++ news₁) →
      wpAny (model prog w) A (execs body env) (TurnEnd h₀ env.locals I own (J (i + 1)) { s with heap := h, toks := tk } Q) E { s with heap := h, toks := tk })
    (done : ∀ m₁ news₁ h tk, J vs.length m₁ news₁ → Fr h₀ env.locals h m₁ → News h₀ env.locals h news₁ → Q .next { s with heap := h, toks := tk }) :
    wpAny (model prog w) A (pyIter (.ref l)) (fun it s₂ => LoopAtV prog w A h₀ env x body Q E it s₂) E s := by
  have hls : s.heap.IsTuple l vs.toArray := ⟨_, (N _ hl).1, rfl, 0, rfl⟩
  have hlt : l < s.heap.objs.size := Heap.lt_size (N _ hl).1
  refine wpAny_pyIter_tuple hls ?_
  have W := Walks.tuple (prog := prog) (w := w) hh s.heap.objs.size l (Nat.ne_of_lt hlt) vs.toArray
  rw [List.size_toArray] at W
  refine loop_walk J W (fun i h st => ?_) (by simp) ?_ (fresh_none F) ⟨⟨_, Heap.get?_push_size _ rfl, rfl, rfl⟩, hls.at fun o e => Heap.get?_push_of_some _ e⟩ (F.push _) (news_pushed N _) (fun p hp => Nat.ne_of_lt (Heap.lt_size (N p hp).1)) hj ?_ ?_
  · obtain ⟨o, ho, _⟩ := st.1
    exact ⟨o, ho⟩
  · intro hm
    rcases List.mem_cons.mp hm with e | hm
    · exact absurd F.ns.lt (by rw [e]; exact Nat.lt_irrefl _)
    · exact (N _ hl).2.1 (List.mem_singleton.mp hm).symm
  · intro i v m₁ news₁ h tk own oI hi hP hJ hI hofp hnI F₁ N₁
    refine turn i v m₁ news₁ h tk own _ oI (by simpa using hP) hJ hI hlt (fun p hp => ?_) hnI F₁ N₁
    have := hofp p hp
    simpa using this
  · intro m₁ news₁ h tk hJ F₁ N₁
    exact done m₁ news₁ h tk hJ F₁ N₁
end
end Mine
namespace Mine
section
variable {prog : Program} {w : World} {A : Around} {E : Value → Shared → Prop} {s : Shared} {env : Env} {h₀ : Heap} {target : PySem.Expr} {body : List Stmt} {Q : Flow → Shared → Prop}
/-- what a for asks of its iterator: any target, an invariant over the frame's names and the ledger -/
def LoopAtG (prog : Program) (w : World) (A : Around) (h₀ : Heap) (env : Env) (target : PySem.Expr) (body : List Stmt) (Q : Flow → Shared → Prop) (E : Value → Shared → Prop) (it : Value) (s : Shared) : Prop :=
  ∃ (I : Addr) (fp : List Addr) (n : Nat) (P : Nat → Value → Prop) (St : Nat → Heap → Prop) (m₀ : Str → Option Value) (news : List (Addr × Obj)) (J : Nat → (Str → Option Value) → List (Addr × Obj) → Prop),
    it = .ref I ∧ Walks prog w A I fp [I] n P St ∧ (∀ i h, St i h → ∃ o, h.get? I = some o) ∧ I ∈ fp ∧ env.locals ∉ fp ∧ h₀.get? I = none ∧ St 0 s.heap ∧ Fr h₀ env.locals s.heap m₀ ∧ News h₀ env.locals s.heap news ∧ (∀ p ∈ news, p.1 ≠ I) ∧ J 0 m₀ news ∧
    (∀ i v m₁ news₁ h tk own oI, i < n → P i v → J i m₁ news₁ → (I, oI) ∈ own → (∀ p ∈ own, p.1 ∈ fp) → (∀ p ∈ news₁, p.1 ≠ I) → Fr h₀ env.locals h m₁ → News h₀ env.locals h (own ++ news₁) →
      wpAny (model prog w) A (assign target env v) (fun _ s₂ => wpAny (model prog w) A (execs body env) (TurnEnd h₀ env.locals I own (J (i + 1)) { s with heap := h, toks := tk } Q) E s₂) E { s with heap := h, toks := tk }) ∧
    ∀ m₁ news₁ h tk, J n m₁ news₁ → Fr h₀ env.locals h m₁ → News h₀ env.locals h news₁ → Q .next { s with heap := h, toks := tk }
theorem codeAny_walkG {it : Value} (hE : PassesOwn (model prog w) A env E) (ht : ∀ v, letOwnedTupleGo target it v = pure ()) (h : LoopAtG prog w A h₀ env target body Q E it s) :
    codeAny (model prog w) A (.forLoop target it body [] env) (fun r s' => match r with | .ok f => Q f s' | .error e => cameBackBy (model prog w) A env E e s') s := by
  obtain ⟨I, fp, n, P, St, m₀, news, J, rfl, W, hSt, hI, hfp, hI0, st0, F, N, hnI, hj, turn, done⟩ := h
  have old : ∀ b o, h₀.get? b = some o → b ∉ [I] := fun b o e hb => by rw [List.mem_singleton.mp hb, hI0] at e; cases e
  have hLw : env.locals ∉ [I] := fun h => hfp (W.sub _ h)
  refine codeAny_forLoop (R := fun r s' => match r with | .ok f => Q f s' | .error e => cameBackBy (model prog w) A env E e s')
    (fun k s' => ∃ h' tk m' news' i, s' = { s with heap := h', toks := tk } ∧ St i h' ∧ Fr h₀ env.locals h' m' ∧ News h₀ env.locals h' news' ∧ (∀ p ∈ news', p.1 ≠ I) ∧ J i m' news' ∧ i ≤ n ∧ k = n + 1 - i) ?_ (n + 1)
    ⟨s.heap, s.toks, m₀, news, 0, rfl, st0, F, N, hnI, hj, Nat.zero_le _, rfl⟩ ht
  rintro k s' ⟨h', tk, m', news', i, rfl, hst', F', N', hnw', hJ, hi, rfl⟩
  have next : ∀ h₁ : Heap, (∀ b o, b ∉ [I] → h'.get? b = some o → h₁.get? b = some o) → Fr h₀ env.locals h₁ m' ∧ News h₀ env.locals h₁ news' := fun h₁ hk₁ =>
    ⟨⟨F'.ns.at' fun o e => hk₁ _ o hLw e, fun b o e => hk₁ b o (old b o e) (F'.keep b o e), F'.above⟩, fun p hp => ⟨hk₁ _ _ (fun q => hnw' p hp (List.mem_singleton.mp q)) (N' p hp).1, (N' p hp).2⟩⟩
  by_cases hlt : i < n
  · refine W.item i _ _ _ hlt hst' fun v h₁ tk₁ hP hst₁ hk₁ => ?_
    obtain ⟨F₁, N₁⟩ := next h₁ hk₁
    have Nown : News h₀ env.locals h₁ (ownOf h₀ fp h₁) := news_ownOf hfp
    obtain ⟨oI, hoI⟩ := hSt _ _ hst₁
    refine wpAny_passesOwn hE (wpAny_mono (turn i v m' news' h₁ tk₁ (ownOf h₀ fp h₁) oI hlt hP hJ (mem_ownOf hI hI0 hoI) ownOf_sub hnw' F₁ (Nown.append N₁)) (fun _ s₂ h₂ => ?_) fun _ _ e => e)
    refine wpAny_passesOwn hE (wpAny_mono h₂ (fun f s₃ h₃ => ?_) fun _ _ e => e)
    have fin : (∃ h3 tk3 m3 news3, s₃ = { s with heap := h3, toks := tk3 } ∧ Fr h₀ env.locals h3 m3 ∧ News h₀ env.locals h3 (ownOf h₀ fp h₁ ++ news3) ∧ (∀ p ∈ news3, p.1 ≠ I) ∧ J (i + 1) m3 news3) →
        ∃ m, m < n + 1 - i ∧ ∃ h' tk m' news' i, s₃ = { s with heap := h', toks := tk } ∧ St i h' ∧ Fr h₀ env.locals h' m' ∧ News h₀ env.locals h' news' ∧ (∀ p ∈ news', p.1 ≠ I) ∧ J i m' news' ∧ i ≤ n ∧ m = n + 1 - i := by
      rintro ⟨h3, tk3, m3, news3, rfl, F3, N3, ha3, hJ3⟩
      refine ⟨n + 1 - (i + 1), by omega, h3, tk3, m3, news3, i + 1, rfl, ?_, F3, N3.right, ha3, hJ3, hlt, rfl⟩
      refine W.frame _ _ _ hst₁ fun b hb o e => ?_
      cases hn : h₀.get? b with
      | some o₀ =>
        have : o₀ = o := by have := F₁.keep b o₀ hn; rw [e] at this; exact (Option.some.inj this).symm
        exact this ▸ F3.keep b o₀ hn
      | none => exact (N3 _ (List.mem_append_left _ (mem_ownOf hb hn e))).1
    cases f with
    | ret v => exact h₃
    | brk => exact h₃
    | cont => exact fin h₃
    | next => exact fin h₃
  · have hin : i = n := by omega
    subst hin
    refine W.done _ _ _ hst' fun h₁ tk₁ hk₁ => wpAny_execs_nil ?_
    obtain ⟨F₁, N₁⟩ := next h₁ hk₁
    exact done m' news' h₁ tk₁ hJ F₁ N₁
theorem For_G {iter : PySem.Expr} {pos : Pos} {m : Str → Option Value} (_F : Fr h₀ env.locals s.heap m)
    (h : wpAny (model prog w) A (eval iter env) (fun xv s₁ => wpAny (model prog w) A (pyIter xv) (fun it s₂ => LoopAtG prog w A h₀ env target body Q E it s₂) E s₁) E s)
    (hs : ∀ x, foldedSetIterable iter env x = pure x := by intro _; rfl) (ht : ∀ it v, letOwnedTupleGo target it v = pure () := by intro _ _; rfl)
    (hE : PassesOwn (model prog w) A env E := by passes_own) : wpAny (model prog w) A (exec (.For target iter body [] pos) env) Q E s :=
  wpAny_For (wpAny_mono h (fun xv s₁ h₁ => wpAny_mono h₁ (fun it s₂ h₂ => codeAny_walkG hE (ht it) h₂) fun _ _ e => e) fun _ _ e => e) hs
theorem iterG_list {l : Addr} {vs : List Value} {c : Nat} {m₀ : Str → Option Value} {news : List (Addr × Obj)} (J : Nat → (Str → Option Value) → List (Addr × Obj) → Prop)
    (hh : A.handled = none) (F : Fr h₀ env.locals s.heap m₀) (N : News h₀ env.locals s.heap news) (hl : (l, listOf vs.toArray c) ∈ news) (hj : J 0 m₀ news)
    (turn : ∀ i v m₁ news₁ h tk own I oI, vs[i]? = some v → J i m₁ news₁ → (I, oI) ∈ own → l < I → (∀ p ∈ news, p.1 < I) → (∀ p ∈ own, p.1 = I ∨ p.1 = l) → (∀ p ∈ news₁, p.1 ≠ I) → Fr h₀ env.locals h m₁ → News h₀ env.locals h (own ++ news₁) →
      wpAny (model prog w) A (assign target env v) (fun _ s₂ => wpAny (model prog w) A (execs body env) (TurnEnd h₀ env.locals I own (J (i + 1)) { s with heap := h, toks := tk } Q) E s₂) E { s with heap := h, toks := tk })
    (done : ∀ m₁ news₁ h tk, J vs.length m₁ news₁ → Fr h₀ env.locals h m₁ → News h₀ env.locals h news₁ → Q .next { s with heap := h, toks := tk }) :
    wpAny (model prog w) A (pyIter (.ref l)) (fun it s₂ => LoopAtG prog w A h₀ env target body Q E it s₂) E s := by
  have hls : s.heap.IsList l vs.toArray := PySem.IsL.isList (N _ hl).1
  have hlt : l < s.heap.objs.size := Heap.lt_size (N _ hl).1
  refine wpAny_pyIter_list hls ?_
  have W := Walks.list (prog := prog) (w := w) hh s.heap.objs.size l (Nat.ne_of_lt hlt) vs.toArray
  rw [List.size_toArray] at W
  refine ⟨_, _, _, _, _, m₀, news, J, rfl, W, (fun i h st => ?_), (by simp), ?_, (fresh_none F), ⟨⟨_, Heap.get?_push_size _ rfl, rfl, rfl⟩, hls.at fun o e => Heap.get?_push_of_some _ e⟩, (F.push _), (news_pushed N _), (fun p hp => Nat.ne_of_lt (Heap.lt_size (N p hp).1)), hj, ?_, ?_⟩
  · obtain ⟨o, ho, _⟩ := st.1
    exact ⟨o, ho⟩
  · intro hm
    rcases List.mem_cons.mp hm with e | hm
    · exact absurd F.ns.lt (by rw [e]; exact Nat.lt_irrefl _)
    · exact (N _ hl).2.1 (List.mem_singleton.mp hm).symm
  · intro i v m₁ news₁ h tk own oI hi hP hJ hI hofp hnI F₁ N₁
    refine turn i v m₁ news₁ h tk own _ oI (by simpa using hP) hJ hI hlt (fun p hp => Heap.lt_size (N p hp).1) (fun p hp => ?_) hnI F₁ N₁
    have := hofp p hp
    simpa using this
  · intro m₁ news₁ h tk hJ F₁ N₁
    exact done m₁ news₁ h tk hJ F₁ N₁
end
end Mine
end

section
open PySem PySem.W PyProof.Rows PySem.Spec PyProof.Rows.LCg PyProof.Rows.LCt
set_option maxRecDepth 100000
set_option maxHeartbeats 4000000
set_option Elab.async false
namespace Mine
section
variable {prog : Program} {w : World} {A : Around} {E : Value → Shared → Prop} {s : Shared} {h₀ : Heap} {L : Addr} {m : Str → Option Value} {env : Env}
theorem CompEnd_mono {I C D : Addr} {s₁ : Shared} {oI oC oD : Obj} {S : List (Addr × Obj) → Prop} {r r' : Value → List (Addr × Obj) → Prop} {y : Value} {s₂ : Shared} (x : CompEnd h₀ L m s₁ I oI C oC D oD S r y s₂) (h : ∀ n, r y n → r' y n) : CompEnd h₀ L m s₁ I oI C oC D oD S r' y s₂ := by
  obtain ⟨h', tk, news', e, F, N, o, hS, hr⟩ := x
  exact ⟨h', tk, news', e, F, N, o, hS, h _ hr⟩
/-- the turns of a comprehension, by an invariant over the items made and the ledger -/
theorem rest_of {elt : PySem.Expr} {x : Str} {scope : Scope} {cl : List (Str × Addr)} {S : List (Addr × Obj) → Prop} {P : Nat → Value → Prop} {Fin : List Value → List (Addr × Obj) → Prop} (n : Nat) (J : Nat → List Value → List (Addr × Obj) → Prop)
    (turn : ∀ i ys news v I oI C oC D m₂ h tk (E' : Value → Shared → Prop), i < n → J i ys news → P i v → NsObj oC m₂ → m₂ x = some v → Fr h₀ L h m → News h₀ L h ((I, oI) :: (C, oC) :: (D, lst ys) :: news) → Off3 I C D news → ((@Ne Nat I C) ∧ (@Ne Nat I D) ∧ (@Ne Nat C D)) →
      wpAny (model prog w) A (eval elt (compEnvC scope cl C env)) (CompEnd h₀ L m { s with heap := h, toks := tk } I oI C oC D (lst ys) S (fun y news' => J (i + 1) (ys ++ [y]) news')) E' { s with heap := h, toks := tk })
    (done : ∀ ys news, J n ys news → Fin ys news) : ∀ k i ys news, i + k = n → J i ys news → CompRest prog w A h₀ L m env elt x scope cl s S P Fin k i ys news
  | 0, i, ys, news, e, j => done _ _ (by have : i = n := by omega
                                         exact this ▸ j)
  | k + 1, i, ys, news, e, j => CompRest.succ fun v I oI C oC D m₂ h tk E' hv hC hx F N o ne =>
      wpAny_mono (turn i ys news v I oI C oC D m₂ h tk E' (by omega) j hv hC hx F N o ne) (fun _ _ c => CompEnd_mono c fun _ jj => rest_of n J turn done k (i + 1) _ _ (by omega) jj) fun _ _ e => e
theorem restT_of {ct elt : PySem.Expr} {x : Str} {scope : Scope} {cl : List (Str × Addr)} {S : List (Addr × Obj) → Prop} {P : Nat → Value → Prop} {Fin : List Value → List (Addr × Obj) → Prop} (n : Nat) (J : Nat → List Value → List (Addr × Obj) → Prop)
    (turn : ∀ i ys news v I oI C oC D m₂ h tk (E' : Value → Shared → Prop), i < n → J i ys news → P i v → NsObj oC m₂ → m₂ x = some v → Fr h₀ L h m → News h₀ L h ((I, oI) :: (C, oC) :: (D, lst ys) :: news) → Off3 I C D news → ((@Ne Nat I C) ∧ (@Ne Nat I D) ∧ (@Ne Nat C D)) →
      wpAny (model prog w) A (isTrue ct (compEnvC scope cl C env) (eval ct (compEnvC scope cl C env))) (fun ok s' => if ok = true then
        wpAny (model prog w) A (eval elt (compEnvC scope cl C env)) (CompEnd h₀ L m { s with heap := h, toks := tk } I oI C oC D (lst ys) S (fun y news' => J (i + 1) (ys ++ [y]) news')) E' s'
        else CompEnd h₀ L m { s with heap := h, toks := tk } I oI C oC D (lst ys) S (fun _ news' => J (i + 1) ys news') Value.none s') E' { s with heap := h, toks := tk })
    (done : ∀ ys news, J n ys news → Fin ys news) : ∀ k i ys news, i + k = n → J i ys news → CompRestT prog w A h₀ L m env ct elt x scope cl s S P Fin k i ys news
  | 0, i, ys, news, e, j => done _ _ (by have : i = n := by omega
                                         exact this ▸ j)
  | k + 1, i, ys, news, e, j => CompRestT.succ fun v I oI C oC D m₂ h tk E' hv hC hx F N o ne =>
      wpAny_mono (turn i ys news v I oI C oC D m₂ h tk E' (by omega) j hv hC hx F N o ne) (fun ok s' c => by
        cases ok with
        | true =>
          simp only [if_true] at c ⊢
          exact wpAny_mono c (fun _ _ c => CompEnd_mono c fun _ jj => restT_of n J turn done k (i + 1) _ _ (by omega) jj) fun _ _ e => e
        | false =>
          simp only [Bool.false_eq_true, if_false] at c ⊢
          exact CompEnd_mono c fun _ jj => restT_of n J turn done k (i + 1) _ _ (by omega) jj) fun _ _ e => e
theorem off3_of_lt {I C D : Addr} {news : List (Addr × Obj)} (h : ∀ p ∈ news, p.1 ≠ I ∧ p.1 ≠ C ∧ p.1 ≠ D) : Off3 I C D news := Off3.of h
theorem off3_sub {I C D : Addr} {news news' : List (Addr × Obj)} (o : Off3 I C D news) (h : ∀ p ∈ news', p ∈ news) : Off3 I C D news' := Off3.of fun p hp => o.mem p (h p hp)
theorem off1_mem {D : Addr} : ∀ {l : List (Addr × Obj)}, Off1 D l → ∀ p ∈ l, p.1 ≠ D
  | [], _, _, h => nomatch h
  | _ :: _, x, p, h => by
    rcases List.mem_cons.mp h with rfl | h
    · exact x.1
    · exact off1_mem x.2 p h
end
/-! lists of texts: == -/
open PySem.SeqAt
theorem all_range_eq {S T : List Str} (h : S.length = T.length) : ((List.range S.length).all fun j => decide (S[j]? = T[j]?)) = decide (S = T) := by
  by_cases q : S = T
  · subst q; simp
  · have : ¬ ∀ j, j < S.length → S[j]? = T[j]? := fun g => q (List.ext_getElem? fun j => by
      by_cases hj : j < S.length
      · exact g j hj
      · rw [List.getElem?_eq_none (by omega), List.getElem?_eq_none (by omega)])
    simp only [q, decide_false]
    rw [List.all_eq_false]
    simp only [Classical.not_forall] at this
    obtain ⟨j, hj, e⟩ := this
    exact ⟨j, List.mem_range.mpr hj, by simp [e]⟩
theorem eqAt_strs {A : Around} {s : Shared} {a b : Addr} {xs ys : List Value} {na nb : Nat} {S T : List Str} (ha : s.heap.get? a = some (listOf xs.toArray na)) (hb : s.heap.get? b = some (listOf ys.toArray nb)) (hS : StrsAre xs S) (hT : StrsAre ys T) (hu : A.units < cLine) :
    EqAt A s (.ref a) (.ref b) (decide (S = T)) := by
  by_cases q : a = b
  · subst q
    rw [ha] at hb
    have e : xs = ys := by
      have := Option.some.inj hb
      simp only [W.listOf, Obj.mk.injEq, Data.seq.injEq] at this
      have e2 := this.2.2.1.1
      simpa using e2
    have : S = T := by rw [← hS.strs, ← hT.strs, e]
    rw [decide_eq_true this]
    exact EqAt.same _
  · refine EqAt.of_refs q ?_
    have la := hS.len_eq
    have lb := hT.len_eq
    by_cases hl : S.length = T.length
    · have := RcAt.lists (A := A) (e := fun j => decide (S[j]? = T[j]?)) (PySem.IsL.isList ha) (PySem.IsL.isList hb) (by simp; omega) hu (fun j h1 h2 => by
        have e1 : xs[j]? = some xs.toArray[j] := by simp
        have e2 : ys[j]? = some ys.toArray[j] := by simp
        obtain ⟨x, t, ex, gx⟩ := hS.item _ _ e1
        obtain ⟨y, u, ey, gy⟩ := hT.item _ _ e2
        rw [ex, ey, gx, gy]
        have := EqAt.str_str (A := A.in1) (s := s) x t y u
        have r : (x == y) = decide (some x = some y) := by
          rw [Bool.eq_iff_iff]; simp
        rw [r] at this
        exact this)
      rw [show xs.toArray.size = S.length by simpa using la, all_range_eq hl] at this
      exact this
    · have : S ≠ T := fun e => hl (by rw [e])
      rw [decide_eq_false this]
      exact RcAt.lists_lengths (PySem.IsL.isList ha) (PySem.IsL.isList hb) (by simp; omega) hu
end Mine
end

section
open PySem PySem.W PyProof.Rows PySem.Spec
set_option maxRecDepth 100000
set_option maxHeartbeats 4000000
set_option Elab.async false
namespace Mine
section
variable {prog : Program} {w : World} {A : Around} {E : Value → Shared → Prop} {s : Shared} {env : Env} {h₀ : Heap} {target : PySem.Expr} {body : List Stmt} {Q : Flow → Shared → Prop}
theorem iterG_range {r : Addr} {a b : Int} {t u v : Tok} {n : Nat} {m₀ : Str → Option Value} {news : List (Addr × Obj)} (J : Nat → (Str → Option Value) → List (Addr × Obj) → Prop)
    (hh : A.handled = none) (F : Fr h₀ env.locals s.heap m₀) (N : News h₀ env.locals s.heap news) (hr : IsRange s.heap r a b 1 t u v) (hsm : Builtin.Range.small a b 1 = true) (hn : Builtin.Range.rangeSize a b 1 = ((n : Nat) : Int)) (hj : J 0 m₀ news)
    (turn : ∀ i k m₁ news₁ h tk own I oI, i < n → J i m₁ news₁ → (I, oI) ∈ own → (∀ p ∈ news, p.1 < I) → (∀ p ∈ own, p.1 = I) → (∀ p ∈ news₁, p.1 ≠ I) → Fr h₀ env.locals h m₁ → News h₀ env.locals h (own ++ news₁) →
      wpAny (model prog w) A (assign target env (.int (a + (i : Nat)) k)) (fun _ s₂ => wpAny (model prog w) A (execs body env) (TurnEnd h₀ env.locals I own (J (i + 1)) { s with heap := h, toks := tk } Q) E s₂) E { s with heap := h, toks := tk })
    (done : ∀ m₁ news₁ h tk, J n m₁ news₁ → Fr h₀ env.locals h m₁ → News h₀ env.locals h news₁ → Q .next { s with heap := h, toks := tk }) :
    wpAny (model prog w) A (pyIter (.ref r)) (fun it s₂ => LoopAtG prog w A h₀ env target body Q E it s₂) E s := by
  refine wpAny_pyIter_range hr hsm ?_
  refine ⟨_, _, n, _, _, m₀, news, J, rfl, LCg.range_walks hh a n, (fun i h st => ⟨_, st⟩), (by simp), ?_, (fresh_none F), ?_, (F.push _), (news_pushed N _), (fun p hp => Nat.ne_of_lt (Heap.lt_size (N p hp).1)), hj, ?_, ?_⟩
  · intro hm
    exact absurd F.ns.lt (by rw [List.mem_singleton.mp hm]; exact Nat.lt_irrefl _)
  · show IsRangeIter _ _ _ _ _
    rw [hn]; simpa using Heap.get?_push_size _ rfl
  · intro i v m₁ news₁ h tk own oI hi hP hJ hI hofp hnI F₁ N₁
    obtain ⟨k, rfl⟩ := hP
    exact turn i k m₁ news₁ h tk own _ oI hi hJ hI (fun p hp => Heap.lt_size (N p hp).1) (fun p hp => List.mem_singleton.mp (hofp p hp)) hnI F₁ N₁
  · intro m₁ news₁ h tk hJ F₁ N₁
    exact done m₁ news₁ h tk hJ F₁ N₁
end
section
variable {prog : Program} {w : World} {A : Around} {E : Value → Shared → Prop} {s : Shared} {h₀ : Heap} {L l : Addr} {m : Str → Option Value} {news : List (Addr × Obj)} {value slice : PySem.Expr} {vs : List Value} {n : Nat} {Q : Value → Shared → Prop}
theorem upto_at {k : Int} {u : Tok} {b : Nat} (F : Fr h₀ L s.heap m) (N : News h₀ L s.heap news) (hl : s.heap.get? l = some (listOf vs.toArray n)) (hk : k = (b : Nat)) (hz : vs.length < 100)
    (h : ∀ D h', Fr h₀ L h' m → News h₀ L h' ((D, listOf (vs.take b).toArray 0) :: news) → (∀ p ∈ news, p.1 < D) → L < D → Q (.ref D) { s with heap := h' })
    (hs : subscripted slice false (.ref l) (.ref s.heap.objs.size) = operate [.ref s.heap.objs.size, .ref l] (getItem (.ref l) (.ref s.heap.objs.size)) := by with_unfolding_all rfl) (ht : ∀ r, letTemporaryGo value (.ref l) r = pure () := by intro _; rfl) :
    wpAny (model prog w) A (subscriptTail value slice (.ref l) (.ref s.heap.objs.size)) Q E { s with heap := s.heap.push { cls := .type "slice", data := .fields #[.none, .int k u, .none] } } := by
  subst hk
  refine slice_list F N (PySem.IsL.isList hl) IsPart.none (IsPart.int _ _) (fun h' F' N' => h _ h' F' ?_ (fun p hp => Nat.lt_succ_of_lt (Heap.lt_size (N p hp).1)) (Nat.lt_succ_of_lt F.ns.lt)) hs ht (by rw [sizeLine_eq]; simp; omega)
  rw [slicePick_upto'] at N'
  exact N'
end
theorem turn_next {h₀ : Heap} {L I : Addr} {own : List (Addr × Obj)} {Jn : (Str → Option Value) → List (Addr × Obj) → Prop} {s₁ : Shared} {Q : Flow → Shared → Prop} {h' : Heap} {tk : Nat} {m' : Str → Option Value} {all : List (Addr × Obj)} (F : Fr h₀ L h' m') (N : News h₀ L h' all) (news' : List (Addr × Obj)) (sub : ∀ p ∈ own ++ news', p ∈ all) (off : ∀ p ∈ news', p.1 ≠ I) (j : Jn m' news') :
    TurnEnd h₀ L I own Jn s₁ Q .next { s₁ with heap := h', toks := tk } := ⟨h', tk, m', news', rfl, F, fun p hp => N p (sub p hp), off, j⟩
end Mine
end

section
open PySem PySem.W PyProof.Rows PySem.Spec
set_option maxRecDepth 100000
set_option maxHeartbeats 4000000
set_option Elab.async false
namespace Mine
/-- the digit's place in ['a', 'b c', 'D'], as the order of the names has it -/
def tr : Nat → Nat
  | 0 => 1
  | 1 => 2
  | _ => 0
def dgt (x : Int) (k : Nat) : Nat := tr (((x.fdiv 3).fdiv (3 ^ k)).fmod 3).toNat
def pathOf (x : Int) : List Nat := (List.range (1 + (x.fmod 3).toNat)).map (dgt x)
def PathAt (own : List (Addr × Obj)) (v : Value) (ds : List Nat) : Prop := ∃ a xs n, v = .ref a ∧ (a, listOf (List.toArray xs) n) ∈ own ∧ StrsAre xs (List.map nm ds)
structure TreeOk (own : List (Addr × Obj)) (ts : List Value) (pss : List (List Nat)) : Prop where
  len : ts.length = pss.length
  at' : ∀ (i : Nat) v ds, ts[i]? = some v → pss[i]? = some ds → PathAt own v ds
  nodup : pss.Nodup
  allp : ∀ ds ∈ pss, ds ∈ allP
  closed : ∀ ds ∈ pss, ds.dropLast = [] ∨ ds.dropLast ∈ pss
def TreeJ (news : List (Addr × Obj)) (l T X : Addr) (ns : List Int) (i : Nat) (m' : Str → Option Value) (news' : List (Addr × Obj)) : Prop :=
  ∃ ts c own oX pss cv, news' = (T, listOf (List.toArray ts) c) :: (X, oX) :: (own ++ news) ∧ oX.data = .cell cv ∧ m' (Str.ofString "numbers") = some (.ref l) ∧ m' (Str.ofString "tree") = some (.ref T) ∧ (∀ p ∈ own ++ news, p.1 ≠ T ∧ p.1 ≠ X) ∧ TreeOk own ts pss ∧ (∀ n ∈ ns.take i, pathOf n ∈ pss) ∧ ∀ p ∈ own, ∀ q ∈ news, p.1 ≠ q.1
theorem lit3 {t0 t1 t2 : Tok} : ∀ {e : Nat}, e < 3 → ∃ t, [Value.str (Str.ofString "a") t0, Value.str (Str.ofString "b c") t1, Value.str (Str.ofString "D") t2][e]? = some (.str (nm (tr e)) t)
  | 0, _ => ⟨_, rfl⟩
  | 1, _ => ⟨_, rfl⟩
  | 2, _ => ⟨_, rfl⟩
  | n + 3, h => by omega
theorem fmod3 (y : Int) : y.fmod 3 = ((y.fmod 3).toNat : Int) ∧ (y.fmod 3).toNat < 3 := by
  have h1 := Int.fmod_nonneg_of_pos y (b := 3) (by exact Int.natCast_nonneg _)
  have h2 := Int.fmod_lt_of_pos y (b := 3) (by exact Int.natCast_nonneg _)
  omega
theorem TreeOk.nil : TreeOk [] [] [] := ⟨rfl, by simp, by simp, by simp, by simp⟩
open Classical in
theorem nm_inj_all : ∀ ds ∈ allP, ∀ es ∈ allP, ds.map nm = es.map nm → ds = es := by decide +kernel
theorem TreeOk.add {own own' : List (Addr × Obj)} {ts : List Value} {pss : List (List Nat)} {v : Value} {q : List Nat} (h : TreeOk own ts pss) (hs : ∀ p ∈ own, p ∈ own') (hv : PathAt own' v q) (hq : q ∈ allP) (hn : q ∉ pss) (hc : q.dropLast = [] ∨ q.dropLast ∈ pss) :
    TreeOk own' (ts ++ [v]) (pss ++ [q]) := by
  refine ⟨by simp [h.len], fun i x ds h1 h2 => ?_, ?_, ?_, ?_⟩
  · by_cases hi : i < ts.length
    · rw [List.getElem?_append_left hi] at h1
      rw [List.getElem?_append_left (by rw [← h.len]; exact hi)] at h2
      obtain ⟨a, xs, n, e, hm, hx⟩ := h.at' i x ds h1 h2
      exact ⟨a, xs, n, e, hs _ hm, hx⟩
    · rw [List.getElem?_append_right (by omega)] at h1
      rw [List.getElem?_append_right (by rw [← h.len]; omega), ← h.len] at h2
      have hi' := (List.getElem?_eq_some_iff.mp h1).1
      have : i - ts.length = 0 := by simp at hi'; omega
      rw [this] at h1 h2
      simp at h1 h2
      subst h1 h2
      exact hv
  · rw [List.nodup_append]
    refine ⟨h.nodup, by simp, fun a ha b hb => ?_⟩
    rw [List.mem_singleton.mp hb]
    rintro rfl
    exact hn ha
  · intro ds hd
    rcases List.mem_append.mp hd with hd | hd
    · exact h.allp ds hd
    · rw [List.mem_singleton.mp hd]; exact hq
  · intro ds hd
    rcases List.mem_append.mp hd with hd | hd
    · exact (h.closed ds hd).imp id fun x => List.mem_append_left _ x
    · rw [List.mem_singleton.mp hd]; exact hc.imp id fun x => List.mem_append_left _ x
theorem path_same {h₀ h : Heap} {L : Addr} {news own : List (Addr × Obj)} {v : Value} {ds es : List Nat} (N : News h₀ L h news) (hs : ∀ p ∈ own, p ∈ news) (h1 : PathAt own v ds) (h2 : PathAt own v es) : ds.map nm = es.map nm := by
  obtain ⟨a, xs, n, rfl, hm, hx⟩ := h1
  obtain ⟨b, ys, k, e, hm', hy⟩ := h2
  injection e with e
  subst e
  have e1 := (N _ (hs _ hm)).1
  have e2 := (N _ (hs _ hm')).1
  have := Option.some.inj (e1.symm.trans e2)
  simp only [W.listOf, Obj.mk.injEq, Data.seq.injEq] at this
  have e3 : xs = ys := by simpa using this.2.2.1.1
  rw [← hx.strs, ← hy.strs, e3]
open PySem.SeqAt
theorem tree_notin {prog : Program} {w : World} {A : Around} {E : Value → Shared → Prop} {s : Shared} {h₀ : Heap} {L : Addr} {news own : List (Addr × Obj)} {ts xs : List Value} {pss : List (List Nat)} {q : List Nat} {T D ct nd : Nat} {Q : Value → Shared → Prop}
    (N : News h₀ L s.heap news) (hs : ∀ p ∈ own, p ∈ news) (OK : TreeOk own ts pss) (hT : (T, listOf (List.toArray ts) ct) ∈ news) (hD : (D, listOf (List.toArray xs) nd) ∈ news) (hx : StrsAre xs (q.map nm)) (hq : q ∈ allP) (hu : A.in1.units < cLine) (h : Q (.bool (decide (q ∉ pss))) s) :
    wpAny (model prog w) A (compareOp .NotIn (.ref D) (.ref T)) Q E s := by
  classical
  refine notIn_listAt (fun v => decide (PathAt own v q)) (PySem.IsL.isList (N _ hT).1) (fun y hy => ?_) ?_
  · have hy' : y ∈ ts := by simpa using hy
    obtain ⟨i, hi⟩ := List.mem_iff_getElem?.mp hy'
    obtain ⟨ds, hds⟩ : ∃ ds, pss[i]? = some ds := ⟨_, List.getElem?_eq_getElem (by rw [← OK.len]; exact (List.getElem?_eq_some_iff.mp hi).1)⟩
    have hp := OK.at' i y ds hi hds
    have hda := OK.allp ds (List.mem_of_getElem? hds)
    obtain ⟨a, ys, n, rfl, hm, hs'⟩ := id hp
    have := eqAt_strs (A := A.in1) (N _ (hs _ hm)).1 (N _ hD).1 hs' hx hu
    have e : decide (ds.map nm = q.map nm) = decide (PathAt own (.ref a) q) := by
      refine decide_eq_decide.mpr ⟨fun e => ?_, fun e => path_same N hs hp e⟩
      rw [nm_inj_all ds hda q hq e] at hp
      exact hp
    rw [e] at this
    exact this
  · have e : (!(List.toArray ts).any fun v => decide (PathAt own v q)) = decide (q ∉ pss) := by
      rw [List.any_toArray]
      by_cases hm : q ∈ pss
      · obtain ⟨i, hi⟩ := List.mem_iff_getElem?.mp hm
        obtain ⟨v, hv⟩ : ∃ v, ts[i]? = some v := ⟨_, List.getElem?_eq_getElem (by rw [OK.len]; exact (List.getElem?_eq_some_iff.mp hi).1)⟩
        have : (ts.any fun v => decide (PathAt own v q)) = true := List.any_eq_true.mpr ⟨v, List.mem_of_getElem? hv, decide_eq_true (OK.at' i v q hv hi)⟩
        rw [this]; simp [hm]
      · have : (ts.any fun v => decide (PathAt own v q)) = false := by
          rw [List.any_eq_false]
          intro v hv hp
          have hp := of_decide_eq_true hp
          obtain ⟨i, hi⟩ := List.mem_iff_getElem?.mp hv
          obtain ⟨ds, hds⟩ : ∃ ds, pss[i]? = some ds := ⟨_, List.getElem?_eq_getElem (by rw [← OK.len]; exact (List.getElem?_eq_some_iff.mp hi).1)⟩
          have e := path_same N hs (OK.at' i v ds hi hds) hp
          rw [nm_inj_all ds (OK.allp ds (List.mem_of_getElem? hds)) q hq e] at hds
          exact hm (List.mem_of_getElem? hds)
        rw [this]; simp [hm]
    rw [e]
    exact h
theorem tr_lt : ∀ e, tr e < 3
  | 0 => by decide
  | 1 => by decide
  | _ + 2 => by simp [tr]
theorem path_take {x : Int} {j : Nat} (hj : j < 1 + (x.fmod 3).toNat) : (pathOf x).take (j + 1) ∈ allP ∧ ((pathOf x).take (j + 1)).dropLast = (pathOf x).take j := by
  have hl : (pathOf x).length = 1 + (x.fmod 3).toNat := by simp [pathOf]
  have h3 := (fmod3 x).2
  refine ⟨allP_of (by rw [List.length_take]; omega) (by rw [List.length_take]; omega) fun d hd => ?_, ?_⟩
  · have := List.mem_of_mem_take hd
    simp only [pathOf, List.mem_map] at this
    obtain ⟨k, _, rfl⟩ := this
    exact tr_lt _
  · rw [List.dropLast_eq_take, List.length_take, List.take_take]
    congr 1
    rw [Nat.min_eq_left (hl ▸ hj : j + 1 ≤ (pathOf x).length), Nat.add_sub_cancel, Nat.min_eq_left (Nat.le_succ j)]
theorem allP_len : allP.length = 39 := by decide
theorem tree_len {own : List (Addr × Obj)} {ts : List Value} {pss : List (List Nat)} (h : TreeOk own ts pss) : ts.length ≤ 39 := by
  rw [h.len, ← allP_len]
  exact List.Nodup.length_le_of_subset h.nodup h.allp
def TreeI (news own : List (Addr × Obj)) (l T X D I : Addr) (oX : Obj) (ys : List Value) (pss : List (List Nat)) (path : List Nat) (j : Nat) (m' : Str → Option Value) (news' : List (Addr × Obj)) : Prop :=
  ∃ ts c own2 pss2, news' = (D, listOf (List.toArray ys) ys.length) :: (T, listOf (List.toArray ts) c) :: (X, oX) :: (own ++ (own2 ++ news)) ∧ m' (Str.ofString "numbers") = some (.ref l) ∧ m' (Str.ofString "tree") = some (.ref T) ∧ m' (Str.ofString "names") = some (.ref D) ∧
    (∀ p ∈ own ++ (own2 ++ news), p.1 ≠ T ∧ p.1 ≠ X ∧ p.1 ≠ D) ∧ (∀ p ∈ own2 ++ news, p.1 ≠ I) ∧ TreeOk own2 ts pss2 ∧ (∀ q ∈ pss, q ∈ pss2) ∧ (∀ k < j, path.take (k + 1) ∈ pss2) ∧ ∀ p ∈ own2, ∀ q ∈ news, p.1 ≠ q.1
theorem TreeOk.mono {own own' : List (Addr × Obj)} {ts : List Value} {pss : List (List Nat)} (h : TreeOk own ts pss) (hs : ∀ p ∈ own, p ∈ own') : TreeOk own' ts pss :=
  ⟨h.len, fun i v ds h1 h2 => let ⟨a, xs, n, e, hm, hx⟩ := h.at' i v ds h1 h2; ⟨a, xs, n, e, hs _ hm, hx⟩, h.nodup, h.allp, h.closed⟩
end Mine
end

section
open PySem PySem.W PyProof.Rows PySem.Spec
set_option maxRecDepth 100000
set_option maxHeartbeats 4000000
set_option Elab.async false
namespace Mine
open PySem.F
theorem owner_map : Manifest.owners.lookup (String.ofList ['p', 'a', 'm'].reverse) = some Manifest.sig_map := by kernel_rfl
theorem slot_map_init : Slot "map" "__init__" "object.__init__" :=
  .of (owner := "object") (n := "__init__") (by rw [typeLookup_type, builtinLookup_eq_fast]; kernel_rfl) (by decide +kernel) (by decide +kernel) (by decide +kernel)
    (by first | exact .inl (by decide +kernel) | exact .inr (by decide +kernel)) (by rw [isSubtype_type]; kernel_rfl)
theorem slot_map_iter : Slot "map" "__iter__" "map.__iter__" :=
  .of (owner := "map") (n := "__iter__") (by rw [typeLookup_type, builtinLookup_eq_fast]; kernel_rfl) (by decide +kernel) (by decide +kernel) (by decide +kernel)
    (by first | exact .inl (by decide +kernel) | exact .inr (by decide +kernel)) (by rw [isSubtype_type]; kernel_rfl)
theorem slot_map_next : Slot "map" "__next__" "map.__next__" :=
  .of (owner := "map") (n := "__next__") (by rw [typeLookup_type, builtinLookup_eq_fast]; kernel_rfl) (by decide +kernel) (by decide +kernel) (by decide +kernel)
    (by first | exact .inl (by decide +kernel) | exact .inr (by decide +kernel)) (by rw [isSubtype_type]; kernel_rfl)
theorem args_map_iter_1 (a : Value) : argsOk "map.__iter__" ⟨[a], []⟩ := by
  unfold argsOk; rw [signature?_of (id := "map.__iter__") (n := ['_', '_', 'r', 'e', 't', 'i', '_', '_']) (o := ['p', 'a', 'm']) (by kernel_rfl) owner_map]; kernel_rfl
theorem args_map_next_1 (a : Value) : argsOk "map.__next__" ⟨[a], []⟩ := by
  unfold argsOk; rw [signature?_of (id := "map.__next__") (n := ['_', '_', 't', 'x', 'e', 'n', '_', '_']) (o := ['p', 'a', 'm']) (by kernel_rfl) owner_map]; kernel_rfl
theorem entry_map_next : entryFor table "map.__next__" = some Builtin.«map.__next__» := entryFor_of_tree (by kernel_rfl)
theorem entry_map_iter : entryFor table "map.__iter__" = some Builtin.«dict_keyiterator.__iter__» :=
  entryFor_alias (id' := "dict_keyiterator.__iter__") (by kernel_rfl) (by first | rfl | decide +kernel | (unfold String.splitOn; simp +decide [String.splitOnAux])) (by decide +kernel) (by kernel_rfl)
theorem mro_map : mroOf (.type "map") = pure [.type "map", .type "object"] := by rw [mroOf_type]; kernel_rfl
theorem lookup_map_new : typeLookup (.type "map") "__new__" = pure (some (.builtin "map.__new__")) := by rw [typeLookup_type, builtinLookup_eq_fast]; kernel_rfl
theorem called_map : TypeCalled "map" "map.__new__" "object.__init__" :=
  ⟨by decide +kernel, by decide +kernel, ⟨_, _, mro_map⟩, madeBy_type mro_map lookup_map_new (by decide +kernel), by decide +kernel, by rw [isSubtype_type]; kernel_rfl, slot_map_init⟩
theorem typeCall_map_2 (a b : Value) : checkTypeCall "map" ⟨[a, b], []⟩ = pure () := by kernel_rfl
theorem newCall_map_2 (a b : Value) : checkBuiltinCall "map.__new__" ⟨[.type "map", a, b], []⟩ = pure () := by kernel_rfl
theorem entry_map_new : entryFor table "map.__new__" = some Builtin.«map.__new__» := entryFor_of_tree (by kernel_rfl)
theorem sub_map : isSubtype (.type "map") (.type "map") = pure true := by rw [isSubtype_type]; kernel_rfl
theorem map_no_len : typeLookup (.type "map") "__len__" = pure none := by rw [typeLookup_type, builtinLookup_eq_fast]; kernel_rfl
theorem map_no_hint : typeLookup (.type "map") "__length_hint__" = pure none := by rw [typeLookup_type, builtinLookup_eq_fast]; kernel_rfl
abbrev mapObj (TT : Addr) (f : Value) : Obj := { cls := .type "map", data := .fields #[.ref TT, f] }
abbrev litObj (l : Addr) (i : Nat) : Obj := { cls := .type "list_iterator", data := .fields #[.ref l, .int i 0] }
abbrev tupObj (vs : List Value) : Obj := { cls := .type "tuple", data := .seq vs.toArray }
abbrev mapH1 (h : Heap) (l : Addr) : Heap := h.push { cls := .type "list_iterator", data := .fields #[.ref l, .int 0 0] }
abbrev mapH2 (h : Heap) (l : Addr) : Heap := (mapH1 h l).push { cls := .type "tuple", data := .seq #[.ref h.objs.size] }
abbrev mapH3 (h : Heap) (l : Addr) (f : Value) : Heap := (mapH2 h l).push { cls := .type "map", data := .fields #[.ref (mapH1 h l).objs.size, f] }
theorem meets_map_new (l : Addr) (xs : Array Value) (f : Value) :
    Meets (Builtin.«map.__new__» ⟨[.type "map", f, .ref l], []⟩) (fun _ R s => s.heap.IsList l xs ∧ R (.ok (.ret (.ref (mapH2 s.heap l).objs.size))) { s with heap := mapH3 s.heap l f }) :=
  .of_wp fun prog w A R s h => by
    obtain ⟨hp, g, d, tk, os⟩ := s; obtain ⟨hl1, h⟩ := h
    have hsub := sub_map
    have hL1 : Heap.IsList (Shared.heap ⟨hp, g, d, tk, os⟩) l xs := hl1
    wp_walk using wpAny_pyIter_list hL1
    exact ⟨_, rfl, h⟩
section
variable {prog : Program} {w : World} {A : Around} {E : Value → Shared → Prop} {s : Shared} {h₀ : Heap} {L : Addr} {m : Str → Option Value} {rest news : List (Addr × Obj)}
theorem call_map {l : Addr} {vs : List Value} {n : Nat} {f : Value} {Q : Value → Shared → Prop} (F : Fr h₀ L s.heap m) (N : News h₀ L s.heap news) (hl : (l, listOf vs.toArray n) ∈ news)
    (h : ∀ h' I TT M, Fr h₀ L h' m → News h₀ L h' ((I, litObj l 0) :: (M, mapObj TT f) :: (TT, tupObj [.ref I]) :: news) → I < TT → TT < M → (∀ p ∈ news, p.1 < I) → Q (.ref M) { s with heap := h' }) :
    wpAny (model prog w) A (call (.type "map") [f, .ref l]) Q E s := by
  have hls : s.heap.IsList l vs.toArray := PySem.IsL.isList (N _ hl).1
  refine callType_new called_map (by decide) (typeCall_map_2 _ _) (newCall_map_2 _ _) (fun obj => PySem.F.args_object_init_3 obj _ _) entry_map_new (meets_map_new l vs.toArray f) ⟨hls, ?_⟩
  have N1 := News.push F N { cls := .type "list_iterator", data := .fields #[.ref l, .int 0 0] }
  have N2 := News.push (F.push _) N1 { cls := .type "tuple", data := .seq #[.ref s.heap.objs.size] }
  have N3 := News.push ((F.push _).push _) N2 { cls := .type "map", data := .fields #[.ref (mapH1 s.heap l).objs.size, f] }
  refine ⟨⟨_, Heap.get?_push_size _ rfl, rfl⟩, h _ s.heap.objs.size (mapH1 s.heap l).objs.size _ (((F.push _).push _).push _) (fun p hp => N3 p ?_) ?_ ?_ fun p hp => Heap.lt_size (N p hp).1⟩
  · simp only [List.mem_cons] at hp ⊢
    rcases hp with h | h | h | h <;> simp [h]
  · show _ < (s.heap.push _).objs.size
    rw [Heap.size_push]; exact Nat.lt_succ_self _
  · show (mapH1 s.heap l).objs.size < ((mapH1 s.heap l).push _).objs.size
    rw [Heap.size_push (mapH1 s.heap l)]; exact Nat.lt_succ_self _
end
end Mine
end

section
open PySem PySem.W PyProof.Rows PySem.Spec
set_option maxRecDepth 100000
set_option maxHeartbeats 4000000
set_option Elab.async false
namespace Mine
section
variable {prog : Program} {w : World} {A : Around} {E : Value → Shared → Prop} {s : Shared} {h₀ : Heap} {L : Addr} {m : Str → Option Value} {rest news : List (Addr × Obj)}
structure IsLit (o : Obj) (l : Addr) (i : Nat) : Prop where
  c : o.cls = .type "list_iterator"
  d : o.data = .fields #[.ref l, .int i 0]
theorem map_next {I TT M l : Addr} {i c : Nat} {vs : List Value} {v f : Value} {oI : Obj} {Q : Value → Shared → Prop} (F : Fr h₀ L s.heap m) (N : News h₀ L s.heap ((I, oI) :: (M, mapObj TT f) :: (TT, tupObj [.ref I]) :: rest))
    (hoI : IsLit oI l i) (hl : (l, listOf vs.toArray c) ∈ rest) (hoff : ∀ p ∈ (M, mapObj TT f) :: (TT, tupObj [.ref I]) :: rest, p.1 ≠ I) (hv : vs[i]? = some v)
    (hcall : ∀ h' oI' (E' : Value → Shared → Prop), IsLit oI' l (i + 1) → Fr h₀ L h' m → News h₀ L h' ((I, oI') :: (M, mapObj TT f) :: (TT, tupObj [.ref I]) :: rest) → wpAny (model prog w) A.in1 (call f [v]) Q E' { s with heap := h' }) :
    wpAny (model prog w) A (pyNext (.ref M)) (fun r s' => ∃ y, r = some y ∧ Q y s') E s := by
  have zM := (N _ (.tail _ (.head _))).1
  have zT := (N _ (.tail _ (.tail _ (.head _)))).1
  have zI := N _ (.head _)
  have hT : s.TypeIs (.ref M) "map" := ⟨_, zM, rfl⟩
  have hls : s.heap.IsList l vs.toArray := PySem.IsL.isList (N _ (.tail _ (.tail _ (.tail _ hl)))).1
  unfold pyNext
  refine wpAny_bind (wpAny_attempt (wpAny_callSpecial?_slot (name := Str.ofString "__next__") hT slot_map_next (wpAny_call_entry slot_map_next hT entry_map_next ?_ (args_map_next_1 _))))
  show wpAny _ _ (field (.ref M) 0 >>= _) _ _ _
  refine wpAny_bind (wpAny_field zM rfl (x := .ref TT) rfl ?_)
  refine wpAny_bind (wpAny_seqItems zT rfl ?_)
  dsimp only [List.toArray]
  simp only [List.forIn_cons, List.forIn_nil, List.forIn_toArray, pure_bind]
  refine wpAny_bind (wpAny_bind (wpAny_bind (wpAny_holding ?_)))
  refine wpAny_nextOf_list_item ⟨oI, zI.1, hoI.c, hoI.d⟩ hls (by simpa using hv) fun h1 hit1 hs1 => wpAny_pure (wpAny_pure ?_)
  obtain ⟨oI', e1, e2, e3⟩ := hit1
  have F1 := F.change hs1 zI.2.1 zI.2.2
  have N1 : News h₀ L h1 ((I, oI') :: (M, mapObj TT f) :: (TT, tupObj [.ref I]) :: rest) := News.setAt (own := []) N (fun _ h => nomatch h) hoff hs1 e1
  show wpAny _ _ (field (.ref M) 1 >>= _) _ _ _
  refine wpAny_bind (wpAny_field (N1 _ (.tail _ (.head _))).1 rfl (x := f) rfl ?_)
  refine wpAny_bind (wpAny_holding (wpAny_mono (hcall h1 oI' _ ⟨e2, e3⟩ F1 N1) (fun y s' hq => ?_) fun _ _ e => e))
  exact wpAny_bind (wpAny_letGo (wpAny_pure ⟨y, rfl, wpAny_pure ⟨y, rfl, hq⟩⟩))
theorem map_done {I TT M l : Addr} {i c : Nat} {vs : List Value} {f : Value} {oI : Obj} {Q : Option Value → Shared → Prop} (hh : A.handled = none) (F : Fr h₀ L s.heap m) (N : News h₀ L s.heap ((I, oI) :: (M, mapObj TT f) :: (TT, tupObj [.ref I]) :: rest))
    (hoI : IsLit oI l i) (hl : (l, listOf vs.toArray c) ∈ rest) (hoff : ∀ p ∈ (M, mapObj TT f) :: (TT, tupObj [.ref I]) :: rest, p.1 ≠ I) (hv : vs[i]? = none)
    (h : ∀ h', Fr h₀ L h' m → News h₀ L h' rest → Q none { s with heap := h' }) :
    wpAny (model prog w) A (pyNext (.ref M)) Q E s := by
  have zM := (N _ (.tail _ (.head _))).1
  have zT := (N _ (.tail _ (.tail _ (.head _)))).1
  have zI := N _ (.head _)
  have hT : s.TypeIs (.ref M) "map" := ⟨_, zM, rfl⟩
  have hls : s.heap.IsList l vs.toArray := PySem.IsL.isList (N _ (.tail _ (.tail _ (.tail _ hl)))).1
  unfold pyNext
  refine wpAny_bind (wpAny_attempt (wpAny_callSpecial?_slot (name := Str.ofString "__next__") hT slot_map_next (wpAny_call_entry slot_map_next hT entry_map_next ?_ (args_map_next_1 _))))
  show wpAny _ _ (field (.ref M) 0 >>= _) _ _ _
  refine wpAny_bind (wpAny_field zM rfl (x := .ref TT) rfl ?_)
  refine wpAny_bind (wpAny_seqItems zT rfl ?_)
  dsimp only [List.toArray]
  simp only [List.forIn_cons, List.forIn_nil, List.forIn_toArray, pure_bind]
  refine wpAny_bind (wpAny_bind (wpAny_bind (wpAny_holding ?_)))
  refine wpAny_nextOf_list_end hh ⟨oI, zI.1, hoI.c, hoI.d⟩ hls (by simpa using hv) fun h1 e hs1 he => ?_
  have F1 : Fr h₀ L h1 m := ⟨F.ns.at' fun o e => hs1 _ o (Ne.symm zI.2.1) e, fun b o e => hs1 b o (fun q => by rw [q, zI.2.2] at e; cases e) (F.keep b o e), F.above⟩
  have N1 : News h₀ L h1 rest := fun p hp => ⟨hs1 _ _ (hoff p (.tail _ (.tail _ hp))) (N p (.tail _ (.tail _ (.tail _ hp)))).1, (N p (.tail _ (.tail _ (.tail _ hp)))).2⟩
  obtain ⟨o, ho, hc⟩ := he
  refine wpAny_bind (wpAny_isInstance (T := "StopIteration") (b := true) ⟨o, ho, hc⟩ isSubtype_stop ?_)
  exact wpAny_pure (h _ F1 N1)
end
end Mine
end

section
open PySem PySem.W PyProof.Rows PySem.Spec
set_option maxRecDepth 100000
set_option maxHeartbeats 4000000
set_option Elab.async false
namespace Mine
section
variable {prog : Program} {w : World} {A : Around} {E : Value → Shared → Prop} {s : Shared} {h₀ : Heap} {L : Addr} {m : Str → Option Value} {rest news : List (Addr × Obj)}
/-- a def that answers its one argument -/
def Gives (prog : Program) (w : World) (A : Around) (h₀ : Heap) (L : Addr) (m : Str → Option Value) (s : Shared) (f : Value) (vs : List Value) : Prop :=
  ∀ v h tk news' (Q' E' : Value → Shared → Prop), v ∈ vs → Fr h₀ L h m → News h₀ L h news' → (∀ h' tk', Fr h₀ L h' m → News h₀ L h' news' → Q' v { s with heap := h', toks := tk' }) → wpAny (model prog w) A (call f [v]) Q' E' { s with heap := h, toks := tk }
theorem extend_map {S I TT M l : Addr} {c : Nat} {vs : List Value} {f res : Value} {R : Result → Shared → Prop} (hh : A.handled = none) (hz : vs.length < 100) (hl : (l, listOf vs.toArray c) ∈ rest) (G : Gives prog w A.in1.in1 h₀ L m s f vs)
    (hoffI : ∀ p ∈ (M, mapObj TT f) :: (TT, tupObj [.ref I]) :: rest, p.1 ≠ I) (hSI : S ≠ I) (hoffS : ∀ p ∈ (M, mapObj TT f) :: (TT, tupObj [.ref I]) :: rest, p.1 ≠ S)
    (hR : ∀ h tk n, Fr h₀ L h m → News h₀ L h ((S, listOf vs.toArray n) :: rest) → R (.ok (.ret res)) { s with heap := h, toks := tk }) :
    ∀ (k i : Nat) (h : Heap) (tk : Nat) (n : Nat) (oI : Obj), vs.length - i = k → i ≤ vs.length → IsLit oI l i → Fr h₀ L h m → News h₀ L h ((S, listOf (vs.take i).toArray n) :: (I, oI) :: (M, mapObj TT f) :: (TT, tupObj [.ref I]) :: rest) →
      codeAny (model prog w) A (.builtin "list.extend.loop" ⟨[.ref S, .ref M, res], []⟩) R { s with heap := h, toks := tk } := by
  intro k
  induction k with
  | zero =>
    intro i h tk n oI hk hi hoI F N
    have hin : i = vs.length := by omega
    subst hin
    refine codeAny_builtin PySem.F.entry_extend_loop ?_
    rw [Around.under_plainId PySem.F.plain_extend_loop _]
    show wpAny _ A.in1 (pyNext (.ref M) >>= _) _ _ _
    have N1 : News h₀ L h ((I, oI) :: (M, mapObj TT f) :: (TT, tupObj [.ref I]) :: (S, listOf (vs.take vs.length).toArray n) :: rest) := fun p hp => N p (by
      simp only [List.mem_cons] at hp ⊢; rcases hp with h | h | h | h | h <;> simp [h])
    refine wpAny_bind (map_done (s := { s with heap := h, toks := tk }) hh F N1 hoI (.tail _ hl) (fun p hp => ?_) (by simp) fun h' F' N' => ?_)
    · simp only [List.mem_cons] at hp
      rcases hp with rfl | rfl | rfl | hp
      · exact hoffI _ (.head _)
      · exact hoffI _ (.tail _ (.head _))
      · exact hSI
      · exact hoffI _ (.tail _ (.tail _ hp))
    · rw [List.take_length] at N'
      exact wpAny_pure (hR h' tk n F' N')
  | succ k ih =>
    intro i h tk n oI hk hi hoI F N
    have hlt : i < vs.length := by omega
    refine codeAny_builtin PySem.F.entry_extend_loop ?_
    rw [Around.under_plainId PySem.F.plain_extend_loop _]
    show wpAny _ A.in1 (pyNext (.ref M) >>= _) _ _ _
    have N1 : News h₀ L h ((I, oI) :: (M, mapObj TT f) :: (TT, tupObj [.ref I]) :: (S, listOf (vs.take i).toArray n) :: rest) := fun p hp => N p (by
      simp only [List.mem_cons] at hp ⊢; rcases hp with h | h | h | h | h <;> simp [h])
    have hv : vs[i]? = some vs[i] := List.getElem?_eq_getElem hlt
    refine wpAny_bind (wpAny_mono (map_next (s := { s with heap := h, toks := tk }) (Q := fun y s' => y = vs[i] ∧ ∃ h' tk' oI', IsLit oI' l (i + 1) ∧ s' = { s with heap := h', toks := tk' } ∧ Fr h₀ L h' m ∧ News h₀ L h' ((I, oI') :: (M, mapObj TT f) :: (TT, tupObj [.ref I]) :: (S, listOf (vs.take i).toArray n) :: rest)) F N1 hoI (.tail _ hl) (fun p hp => ?_) hv fun h' oI' E' hoI' F' N' => ?_) (fun r s' hr => ?_) fun _ _ e => e)
    · simp only [List.mem_cons] at hp
      rcases hp with rfl | rfl | rfl | hp
      · exact hoffI _ (.head _)
      · exact hoffI _ (.tail _ (.head _))
      · exact hSI
      · exact hoffI _ (.tail _ (.tail _ hp))
    · exact G _ h' tk _ _ _ (List.getElem_mem hlt) F' N' fun h2 tk2 F2 N2 => ⟨rfl, h2, tk2, oI', hoI', rfl, F2, N2⟩
    · obtain ⟨y, rfl, rfl, h', tk', oI', hoI', rfl, F', N'⟩ := hr
      have zS := N' (S, _) (.tail _ (.tail _ (.tail _ (.head _))))
      show wpAny _ A.in1 (updateSeq S (·.push vs[i]) >>= _) _ _ _
      refine wpAny_bind ?_
      refine wpAny_updateSeq zS.1 rfl (wpAny_pure ⟨plainId_quiet PySem.F.plain_extend_loop _, ih (i + 1) _ tk' (n + 1) oI' (by omega) hlt hoI' (F'.change (Heap.SameBut.update ..) zS.2.1 zS.2.2) fun p hp => ?_⟩)
        (by rw [sizeLine_eq]; simp; omega) (by rw [sizeLine_eq]; simp; omega)
      rcases List.mem_cons.mp hp with rfl | hp
      · refine ⟨?_, zS.2⟩
        rw [Heap.get?_update_self _ zS.1 rfl]
        have e : (vs.take i).toArray.push vs[i] = (vs.take (i + 1)).toArray := by
          rw [List.push_toArray, List.take_succ_eq_append_getElem hlt]
        show some (Obj.mapSeq (·.push vs[i]) { cls := .type "list", data := .seq (vs.take i).toArray n }) = _
        rw [mapSeq_push, e]
      · have hpS : p.1 ≠ S := by
          rcases List.mem_cons.mp hp with rfl | hp
          · exact Ne.symm hSI
          · exact hoffS p hp
        have z := N' p (by simp only [List.mem_cons] at hp ⊢; rcases hp with h | h | h | h <;> simp [h])
        exact ⟨(Heap.get?_update_other _ _ (Ne.symm hpS)).trans z.1, z.2⟩
theorem news_perm {h : Heap} {news news' : List (Addr × Obj)} (N : News h₀ L h news) (hs : ∀ p ∈ news', p ∈ news) : News h₀ L h news' := fun p hp => N p (hs p hp)
theorem collect_map {I TT M l : Addr} {c : Nat} {vs : List Value} {f : Value} {oI : Obj} {Q : List Value → Shared → Prop} (hh : A.handled = none) (hz : vs.length < 100) (F : Fr h₀ L s.heap m) (N : News h₀ L s.heap ((I, oI) :: (M, mapObj TT f) :: (TT, tupObj [.ref I]) :: rest)) (hoI : IsLit oI l 0)
    (hl : (l, listOf vs.toArray c) ∈ rest) (G : Gives prog w A.in1.in1 h₀ L m s f vs) (hoffI : ∀ p ∈ (M, mapObj TT f) :: (TT, tupObj [.ref I]) :: rest, p.1 ≠ I)
    (hQ : ∀ h tk, Fr h₀ L h m → News h₀ L h rest → Q vs { s with heap := h, toks := tk }) : wpAny (model prog w) A (collect (.ref M)) Q E s := by
  have zM := (N _ (.tail _ (.head _))).1
  have hlt : ∀ p ∈ (I, oI) :: (M, mapObj TT f) :: (TT, tupObj [.ref I]) :: rest, p.1 ≠ s.heap.objs.size := fun p hp => Nat.ne_of_lt (Heap.lt_size (N p hp).1)
  have hSM : s.heap.objs.size ≠ M := Ne.symm (hlt _ (.tail _ (.head _)))
  have hnew : s.heap.objs.size ≠ L ∧ h₀.get? s.heap.objs.size = none := ⟨Nat.ne_of_gt F.ns.lt, fresh_none F⟩
  unfold collect
  refine wpAny_bind (wpAny_runValue (codeAny_builtin PySem.F.entry_proto_collect ?_))
  rw [Around.under_plainId PySem.F.plain_proto_collect _]
  show wpAny _ A.in1 (newList [] >>= fun l => again (.builtin "list.__iadd__" ⟨[l, .ref M], []⟩)) _ _ s
  refine wpAny_bind (wpAny_newObj_type ?_)
  refine wpAny_pure ⟨plainId_quiet PySem.F.plain_list_iadd _, codeAny_builtin PySem.F.entry_list_iadd ?_⟩
  rw [Around.under_plainId PySem.F.plain_list_iadd _]
  have zM1 : (s.heap.push { cls := .type "list", data := .seq ([] : List Value).toArray }).get? M = some (mapObj TT f) := Heap.get?_push_of_some _ zM
  have hT : Shared.TypeIs { s with heap := s.heap.push { cls := .type "list", data := .seq ([] : List Value).toArray } } (.ref M) "map" := ⟨_, zM1, rfl⟩
  show wpAny _ A.in1 (Builtin.List.listExtendWith (.ref s.heap.objs.size) (.ref M) (.ref s.heap.objs.size)) _ _ _
  unfold Builtin.List.listExtendWith
  refine wpAny_bind (wpAny_typeOf hT ?_)
  have h1 : Builtin.List.listSameRef (.ref s.heap.objs.size) (.ref M) = false := by simp [Builtin.List.listSameRef, hSM]
  have h2 : (Value.type "map" == Value.type "list") = false := by decide
  have h3 : (Value.type "map" == Value.type "tuple") = false := by decide
  simp only [h1, h2, h3, Bool.or_false, Bool.false_eq_true, if_false]
  refine wpAny_bind (wpAny_pyIter_slot hT slot_map_iter (wpAny_call_entry slot_map_iter hT entry_map_iter ?_ (args_map_iter_1 _)))
  show wpAny _ _ (ret (.ref M)) _ _ _
  refine wpAny_pure ⟨_, rfl, "map", _, hT, slot_map_next.lookup, ?_⟩
  refine wpAny_bind (wpAny_holding ?_)
  unfold Builtin.List.listLengthHint
  refine wpAny_bind (wpAny_specialOf hT map_no_len ?_)
  show wpAny _ A.in1 (specialOf (Value.ref M) (Str.ofString "__length_hint__") >>= _) _ _ _
  refine wpAny_bind (wpAny_specialOf hT map_no_hint ?_)
  refine wpAny_pure ?_
  show wpAny _ A.in1 (rule "list.extend.makes-room" >>= fun _ => Builtin.List.listTouch (.ref s.heap.objs.size) >>= fun _ =>
    again (.builtin "list.extend.loop" ⟨[.ref s.heap.objs.size, .ref M, .ref s.heap.objs.size], []⟩)) _ _ _
  refine wpAny_bind (wpAny_rule ?_)
  have hS₁ : (s.heap.push { cls := .type "list", data := .seq ([] : List Value).toArray }).get? s.heap.objs.size = some { cls := .type "list", data := .seq ([] : List Value).toArray } := Heap.get?_push_size _ rfl
  refine wpAny_bind ?_
  show wpAny _ A.in1 (updateSeq s.heap.objs.size (·.push .none) >>= fun _ => updateSeq s.heap.objs.size (·.pop)) _ _ _
  refine wpAny_bind (wpAny_updateSeq hS₁ rfl ?_)
  have hS₂ := Heap.get?_update_self (Obj.mapSeq (·.push Value.none)) hS₁ rfl
  refine wpAny_updateSeq hS₂ rfl ?_
  have hS₃ := Heap.get?_update_self (Obj.mapSeq (·.pop)) hS₂ rfl
  have eS : Obj.mapSeq (·.pop) (Obj.mapSeq (·.push Value.none) ({ cls := .type "list", data := .seq ([] : List Value).toArray } : Obj)) = listOf (vs.take 0).toArray 2 := by
    rw [mapSeq_push]; simp [Obj.mapSeq]
  rw [eS] at hS₃
  have F0 : Fr h₀ L (s.heap.push { cls := .type "list", data := .seq ([] : List Value).toArray }) m := F.push _
  have F3 := (F0.change (Heap.SameBut.update (f := Obj.mapSeq (·.push Value.none)) ..) hnew.1 hnew.2).change (Heap.SameBut.update (f := Obj.mapSeq (·.pop)) ..) hnew.1 hnew.2
  refine wpAny_pure ⟨plainId_quiet PySem.F.plain_extend_loop _, extend_map (s := s) (S := s.heap.objs.size) (c := c) (vs := vs) hh hz hl G hoffI (Ne.symm (hlt _ (.head _))) (fun p hp => hlt p (.tail _ hp)) (fun h tk n F' N' => ?_) _ 0 _ s.toks 2 oI rfl (Nat.zero_le _) hoI F3 fun p hp => ?_⟩
  · have zS := (N' _ (.head _)).1
    show wpAny _ A (load s.heap.objs.size >>= _) _ _ _
    refine wpAny_bind (wpAny_load zS ?_)
    exact wpAny_pure (hQ h tk F' (news_perm N' fun p hp => .tail _ hp))
  · rcases List.mem_cons.mp hp with rfl | hp
    · exact ⟨hS₃, hnew⟩
    · have z := N p hp
      exact ⟨(Heap.get?_update_other _ _ (Ne.symm (hlt p hp))).trans ((Heap.get?_update_other _ _ (Ne.symm (hlt p hp))).trans (Heap.get?_push_of_some _ z.1)), z.2⟩
end
end Mine
end

section
open PySem PySem.W PyProof.Rows PySem.Spec
open AutoSeq1 (wpAny_loadPart')
set_option maxRecDepth 100000
set_option maxHeartbeats 4000000
set_option Elab.async false
namespace Mine
section
variable {prog : Program} {w : World} {A : Around} {E : Value → Shared → Prop} {s : Shared} {h₀ : Heap} {L : Addr} {m : Str → Option Value} {rest news : List (Addr × Obj)}
theorem code_tuple_new_map {I TT M l : Addr} {c : Nat} {vs : List Value} {f : Value} {oI : Obj} {Q₁ : Value → Shared → Prop} (hh : A.handled = none) (hz : vs.length < 100) (F : Fr h₀ L s.heap m) (N : News h₀ L s.heap ((I, oI) :: (M, mapObj TT f) :: (TT, tupObj [.ref I]) :: rest)) (hoI : IsLit oI l 0)
    (hl : (l, listOf vs.toArray c) ∈ rest) (G : Gives prog w A.in1.in1.in1 h₀ L m s f vs) (hoffI : ∀ p ∈ (M, mapObj TT f) :: (TT, tupObj [.ref I]) :: rest, p.1 ≠ I)
    (h : ∀ h tk, Fr h₀ L h m → News h₀ L h rest → Q₁ (.ref h.objs.size) { s with heap := h.push (tupObj vs), toks := tk }) :
    codeAny (model prog w) A (.call (.builtin "tuple.__new__") ⟨[.type "tuple", .ref M], []⟩) (wants Q₁ E) s := by
  refine codeAny_of_tree ?_
  show wpAny _ A.in1 (do checkBuiltinCall "tuple.__new__" ⟨[.type "tuple", .ref M], []⟩; again (.builtin "tuple.__new__" ⟨[.type "tuple", .ref M], []⟩)) _ _ s
  refine wpAny_bind (wpAny_of_eq (PySem.F.newCall_tuple_1 _) (wpAny_pure ⟨plainId_quiet PySem.F.plain_tuple_new _, codeAny_builtin PySem.F.entry_tuple_new ?_⟩))
  rw [Around.under_plainId PySem.F.plain_tuple_new _]
  have hsub := sub_tuple_self
  have hinit := init_tuple_lookup
  have hmh := madeHere_tuple
  have hTI : s.TypeIs (.ref M) "map" := ⟨_, (N _ (.tail _ (.head _))).1, rfl⟩
  wp_walk using wpAny_typeOf hTI, collect_map (A := A.in1) hh hz F N hoI hl G hoffI
  intro h1 tk F1 N1
  show wpAny _ _ (Builtin.Tuple.tupleExact vs.toArray >>= fun v => ret v) _ _ _
  unfold Builtin.Tuple.tupleExact
  refine wpAny_bind (wpAny_newObj_type ?_ (by show vs.toArray.size ≤ sizeLine; rw [sizeLine_eq]; simp; omega))
  exact wpAny_pure (h h1 tk F1 N1)
theorem call_tuple_map {I TT M l : Addr} {c : Nat} {vs : List Value} {f : Value} {oI : Obj} {Q : Value → Shared → Prop} (hh : A.handled = none) (hz : vs.length < 100) (F : Fr h₀ L s.heap m) (N : News h₀ L s.heap ((I, oI) :: (M, mapObj TT f) :: (TT, tupObj [.ref I]) :: rest)) (hoI : IsLit oI l 0)
    (hl : (l, listOf vs.toArray c) ∈ rest) (G : Gives prog w A.in1.in1.in1.in1 h₀ L m s f vs) (hoffI : ∀ p ∈ (M, mapObj TT f) :: (TT, tupObj [.ref I]) :: rest, p.1 ≠ I)
    (hQ : ∀ h t tk, Fr h₀ L h m → News h₀ L h ((t, tupObj vs) :: rest) → (∀ p ∈ rest, p.1 < t) → Q (.ref t) { s with heap := h, toks := tk }) :
    wpAny (model prog w) A (call (.type "tuple") [.ref M]) Q E s := by
  refine callType_codes (Q₁ := fun obj s₁ => s₁.TypeIs obj "tuple" ∧ Q obj s₁) PySem.F.called_tuple (PySem.F.typeCall_tuple_1 _) PySem.F.entry_object_init
    (code_tuple_new_map (A := A.in1) hh hz F N hoI hl G hoffI fun h tk F1 N1 => ⟨⟨_, Heap.get?_push_size _ rfl, rfl⟩, hQ _ _ tk (F1.push _) (News.push F1 N1 _) fun p hp => Heap.lt_size (N1 p hp).1⟩) fun obj s₁ h₁ => ?_
  exact ⟨h₁.1, PySem.F.args_object_init_2 obj _, object_init_meets PySem.F.called_tuple.init.lookup PySem.F.called_tuple.made (by decide) prog w A.in1 _ s₁ ⟨h₁.1, rfl, h₁.2⟩⟩
end
end Mine
end

section
open PySem PySem.W PyProof.Rows PySem.Spec PyProof.Rows.LCg
set_option maxRecDepth 100000
set_option maxHeartbeats 4000000
set_option Elab.async false
namespace Mine
section
variable {prog : Program} {w : World} {A : Around} {E : Value → Shared → Prop} {s : Shared} {h₀ : Heap} {L : Addr} {m : Str → Option Value} {env : Env}
def TupSrc (ax : Addr) (vs : List Value) (news : List (Addr × Obj)) : Prop := (ax, tupObj vs) ∈ news
def CompTup (prog : Program) (w : World) (A : Around) (h₀ : Heap) (L : Addr) (m : Str → Option Value) (env : Env) (elt : PySem.Expr) (x : Str) (scope : Scope) (cl : List (Str × Addr)) (Fin : Shared → List Value → List (Addr × Obj) → Prop) (xv : Value) (s₁ : Shared) : Prop :=
  ∃ ax vs news, xv = .ref ax ∧ A.handled = none ∧ Fr h₀ L s₁.heap m ∧ News h₀ L s₁.heap news ∧ TupSrc ax vs news ∧ vs.length ≤ 100 ∧
      ∀ g, CompRest prog w A h₀ L m env elt x scope cl { s₁ with heap := g } (TupSrc ax vs) (fun i v => vs[i]? = some v) (Fin { s₁ with heap := g }) vs.length 0 [] news
theorem CompTup.mk {elt : PySem.Expr} {x : Str} {scope : Scope} {cl : List (Str × Addr)} {Fin : Shared → List Value → List (Addr × Obj) → Prop} {ax : Addr} {vs : List Value} {news : List (Addr × Obj)} {s₁ : Shared}
    (hh : A.handled = none) (F : Fr h₀ L s₁.heap m) (N : News h₀ L s₁.heap news) (hm : (ax, tupObj vs) ∈ news) (hz : vs.length ≤ 100)
    (h : ∀ g, CompRest prog w A h₀ L m env elt x scope cl { s₁ with heap := g } (TupSrc ax vs) (fun i v => vs[i]? = some v) (Fin { s₁ with heap := g }) vs.length 0 [] news) : CompTup prog w A h₀ L m env elt x scope cl Fin (.ref ax) s₁ :=
  ⟨ax, vs, news, rfl, hh, F, N, hm, hz, h⟩
/-- a list comprehension over a tuple, assigned -/
theorem Assign_ListComp_tup {elt iter : PySem.Expr} {x y : Str} {px py : Pos} {scope : Scope} {cl : List (Str × Addr)} {pos spos : Pos} {Q : Flow → Shared → Prop} (F₀ : Fr h₀ L s.heap m) (hLe : env.locals = L)
    (hsw : swapsWith (.ListComp elt [⟨.Name x px, iter, [], 0⟩] scope pos) (some (.Name y py)) spos.line env = pure true)
    (hclos : closureFor scope env = pure cl) (hcell : ∀ z ∈ scope.names, z.2 ≠ .cell) (hkind : scope.kind = .function)
    (hnames : ∀ z ∈ scope.names, z.2 = .local → scope.names.lookup z.1 = some .local) (hx : scope.names.lookup x = some .local)
    (hy : env.kindOf y = some .local) (hp : (env.scope.kind == .class || (env.scope.kind == .module && env.locals != env.globals)) = false)
    (h : wpAny (model prog w) A (eval iter env) (CompTup prog w A h₀ L m env elt x scope cl (fun s₂ => FinA h₀ L m s₂ y Q)) E s)
    (hs : ∀ x, foldedSetIterable iter env x = pure x := by intro _; rfl) :
    wpAny (model prog w) A (exec (.Assign [.Name y py] (.ListComp elt [⟨.Name x px, iter, [], 0⟩] scope pos) spos) env) Q E s := by
  subst hLe
  rw [exec_Assign_Name_used _ _ _ _ hsw]
  refine wpAny_bind (wpAny_standAt (wpAny_bind ?_))
  show wpAny _ A (do let _ ← comprehension (.ListComp elt [⟨.Name x px, iter, [], 0⟩] scope pos) scope env _ (newList []) false (eval iter env) (some (assign (.Name y py) env))) _ _ s
  refine wpAny_bind (wpAny_mono (wpAny_comprehension_free (use := some (assign (.Name y py) env)) (Q := fun _ s' => Q .next s') rfl hs hclos hkind hnames
    (wpAny_mono h (fun xv s₁ h₁ => ?_) fun _ _ e => e)) (fun _ s' hq => wpAny_pure (wpAny_pure hq)) fun _ _ e => e)
  obtain ⟨ax, vs, news, rfl, hh, F, N, S, hsz, R⟩ := h₁
  have hl : s₁.heap.IsTuple ax vs.toArray := ⟨_, (N _ S).1, rfl, _, rfl⟩
  have hlt : ax < s₁.heap.objs.size := Heap.lt_size (N _ S).1
  refine wpAny_pyIter_tuple hl ?_
  have up : ∀ b o, s₁.heap.get? b = some o → (s₁.heap.push { cls := .type "tuple_iterator", data := .fields #[.ref ax, .int 0 0] }).get? b = some o := fun b o e => Heap.get?_push_of_some _ e
  have W := Walks.tuple (prog := prog) (w := w) hh s₁.heap.objs.size ax (Nat.ne_of_lt hlt) vs.toArray
  have hvz : vs.toArray.size = vs.length := List.size_toArray ..
  have R' := R (s₁.heap.push { cls := .type "tuple_iterator", data := .fields #[.ref ax, .int 0 0] })
  refine block_U (S := TupSrc ax vs) W (by rw [sizeLine_eq, hvz]; omega) (fun i h st => by obtain ⟨o, e, _⟩ := st.1; exact ⟨o, e⟩) (fun i h h' o nw st e e' k N S => ⟨by obtain ⟨o', q, r⟩ := st.1; rw [e] at q; cases q; exact ⟨o, e', r⟩, ⟨_, (N _ S).1, rfl, _, rfl⟩⟩) hcell hkind hx ⟨⟨_, Heap.get?_push_size _ rfl, rfl, rfl⟩, ⟨_, up _ _ (N _ S).1, rfl, _, rfl⟩⟩ (fun b hb => ?_)
    (F.keeps up) (N.grown up) (Nat.ne_of_lt F.ns.lt) (next_is_new F) (fun p hp => Nat.ne_of_lt (Heap.lt_size (N p hp).1)) S (by rw [hvz]; simpa using R') ?_
  · show b < (s₁.heap.push _).objs.size
    rw [Heap.size_push]
    rcases List.mem_cons.mp hb with rfl | hb
    · exact Nat.lt_succ_self _
    · rw [List.mem_singleton.mp hb]; exact Nat.lt_succ_of_lt hlt
  · intro D C h' tk m' ys news' F' N' o1 hn hC₀ hD₀ hCL hDL hCD offC fin
    show wpAny _ A (assign (.Name y py) env (.ref D)) _ _ _
    refine wpAny_assign_Name (wpAny_storeName_local hy F'.ns (fun h₂ hn₂ hs₂ => ?_) hp)
    have hL₀ : h₀.get? env.locals = none := Heap.get?_none_of_le F'.above
    have F₂ : Fr h₀ env.locals h₂ (fun z => if z = y then some (.ref D) else m z) := ⟨hn₂, fun b o e => hs₂.extBut b o (fun q => by rw [q, hL₀] at e; cases e) (F'.keep b o e), F'.above⟩
    refine ⟨m', hn.sameBut hs₂ hCL, fun h'' hs'' => fin D h'' _ (F₂.change hs'' hCL hC₀) (fun p hp => ?_) o1⟩
    have z : h₂.get? p.1 = some p.2 := hs₂.extBut _ _ (N' p hp).2.1 (N' p hp).1
    refine ⟨hs''.extBut _ _ ?_ z, (N' p hp).2⟩
    rcases List.mem_cons.mp hp with rfl | hp
    · exact Ne.symm hCD
    · exact offC p hp
end
end Mine
end

section
open PySem PySem.W PyProof.Rows PySem.Spec PyProof.Rows.LCg
set_option maxRecDepth 100000
set_option maxHeartbeats 4000000
set_option Elab.async false
namespace Mine
def tab1 (led : Bool) : SetTable := { mask := 7, place := #[1], dummies := #[], finger := 0, led := led, moves := 0, plain := true }
abbrev setT0 (led : Bool) : Obj := { cls := .type "set", dict := none, data := .set #[] 0 (.fresh 0 0 led) }
abbrev setT1 (led : Bool) : Obj := { cls := .type "set", dict := none, data := .set #[(1, .bool true)] 1 (tab1 led) }
def ledOf (w : World) : Bool := !(w.params.followText "set-order")
theorem layNew_true (led : Bool) : layNew (.fresh 0 0 led) #[] 1 (.bool true) = (#[(1, .bool true)], tab1 led, false, false) := by
  cases led <;> decide +kernel
section
variable {prog : Program} {w : World} {A : Around} {E : Value → Shared → Prop} {s : Shared}
theorem pyHash_true {Q : Int → Shared → Prop} (h : Q 1 { s with toks := s.toks + 1 }) : wpAny (model prog w) A (pyHash (.bool true)) Q E s := by
  unfold pyHash
  have hv : [Value.bool true].any Value.onHeap = false := rfl
  have hT : s.TypeIs (.bool true) "bool" := rfl
  refine wpAny_bind ?_
  rw [cRoomFor, if_neg (by rw [hv]; exact Bool.false_ne_true)]; refine wpAny_pure ?_
  refine wpAny_bind (wpAny_specialOf hT F.slot_bool_hash.lookup ?_)
  show wpAny _ _ (if (some (Value.builtin "int.__hash__") == some Value.none) = true then _ else _) Q E s
  rw [if_neg (by rw [beq_builtin_none]; exact Bool.false_ne_true)]
  refine wpAny_bind (wpAny_specialOf hT F.slot_bool_hash.lookup ?_)
  show wpAny _ _ (callSpecialIfBoundUnlessNone? (.bool true) "__hash__" _ >>= _) Q E s
  refine wpAny_bind (wpAny_callSpecialIfBoundUnlessNone?_slot hT F.slot_bool_hash
    (wpAny_call_entry F.slot_bool_hash hT entry_int_hash
      (show wpAny _ _ (do ret (← mkInt (rawHash 1))) _ _ s from wpAny_ret_mkInt ?_) (args_int_hash _)))
  show wpAny _ _ (if (decide (-(2 : Int) ^ 63 ≤ rawHash 1) && decide (rawHash 1 < 2 ^ 63)) = true then _ else _) Q E _
  rw [if_pos (by decide +kernel)]
  exact wpAny_pure (by have e : rawHash 1 = 1 := by decide +kernel
                       show Q (if rawHash 1 == -1 then -2 else rawHash 1) _
                       rw [e]; exact h)
theorem add_true0 {a : Addr} {led : Bool} {Q : Value → Shared → Prop} (ho : s.heap.get? a = some (setT0 led)) (h : ∀ h', Heap.SameBut a s.heap h' → h'.get? a = some (setT1 led) → Q .none { s with heap := h', toks := s.toks + 1 }) :
    wpAny (model prog w) A (call (.builtin "set.add") [.ref a, .bool true]) Q E s := by
  refine wpAny_call_entry F.slot_set_add ⟨_, ho, rfl⟩ F.entry_set_add ?_ (F.args_set_add_2 _ _)
  unfold Builtin.«set.add» Builtin.Frozenset.oneOther
  simp only [List.isEmpty_nil, bind_assoc]
  unfold Builtin.Frozenset.addrOf setAdd
  refine wpAny_bind (wpAny_pure ?_)
  try dsimp only
  refine wpAny_bind (wpAny_pure ?_)
  try dsimp only
  refine wpAny_bind ?_
  refine wpAny_holding ?_
  refine wpAny_bind (pyHash_true ?_)
  unfold setAddHashed setAddHashedIn
  have ho' : (Shared.heap { s with toks := s.toks + 1 }).get? a = some (setT0 led) := ho
  refine wpAny_holding (wpAny_bind (wpAny_setState_of (es := #[]) (ep := 0) (t := .fresh 0 0 led) ho' rfl rfl ?_))
  dsimp only
  rw [show byScan (.bool true) #[] = true from by decide +kernel]
  simp only [↓reduceIte]
  unfold setAddByScan
  refine wpAny_bind ?_
  refine wpAny_bind (wpAny_rule ?_)
  refine wpAny_bind (wpAny_pure ?_)
  dsimp only
  rw [layNew_true]
  refine wpAny_bind (wpAny_pure ?_)
  rw [show (tab1 led).plain = true from rfl]
  simp only [↓reduceIte]
  refine wpAny_bind ?_
  rw [hashByValue_scannable 8 (x := .bool true) rfl]
  refine wpAny_pure ?_
  rw [show plainKind (.bool true) = true from rfl]
  simp only [↓reduceIte]
  refine wpAny_bind (wpAny_storeSet_of (es := #[]) (ep := 0) (t := .fresh 0 0 led) ho' rfl ?_ (by show 1 ≤ sizeLine; rw [sizeLine_eq]; decide))
  rw [show (tab1 led).tooFull = false from by cases led <;> decide +kernel]
  simp only [Bool.and_false, Bool.false_eq_true, ↓reduceIte]
  refine wpAny_pure (wpAny_pure ?_)
  show wpAny _ _ (ret Value.none) _ _ _
  have hg : (s.heap.update a (Obj.putSet #[(1, .bool true)] (tab1 led))).get? a = some (setT1 led) := by
    have := Heap.get?_update_self (Obj.putSet #[(1, .bool true)] (tab1 led)) ho (by rw [putSet_of (es := #[]) (ep := 0) (t := .fresh 0 0 led) _ _ rfl]; rfl)
    rw [putSet_of (es := #[]) (ep := 0) (t := .fresh 0 0 led) _ _ rfl] at this; exact this
  exact wpAny_pure ⟨_, rfl, h _ (Heap.SameBut.update ..) hg⟩
theorem add_true1 {a : Addr} {led : Bool} {Q : Value → Shared → Prop} (ho : s.heap.get? a = some (setT1 led)) (h : Q .none { s with toks := s.toks + 1 }) :
    wpAny (model prog w) A (call (.builtin "set.add") [.ref a, .bool true]) Q E s := by
  refine wpAny_call_entry F.slot_set_add ⟨_, ho, rfl⟩ F.entry_set_add ?_ (F.args_set_add_2 _ _)
  unfold Builtin.«set.add» Builtin.Frozenset.oneOther
  simp only [List.isEmpty_nil, bind_assoc]
  unfold Builtin.Frozenset.addrOf setAdd
  refine wpAny_bind (wpAny_pure ?_)
  try dsimp only
  refine wpAny_bind (wpAny_pure ?_)
  try dsimp only
  refine wpAny_bind ?_
  refine wpAny_holding ?_
  refine wpAny_bind (pyHash_true ?_)
  unfold setAddHashed setAddHashedIn
  have ho' : (Shared.heap { s with toks := s.toks + 1 }).get? a = some (setT1 led) := ho
  refine wpAny_holding (wpAny_bind (wpAny_setState_of (es := #[(1, .bool true)]) (ep := 1) (t := tab1 led) ho' rfl rfl ?_))
  dsimp only
  rw [show byScan (.bool true) #[(1, .bool true)] = true from by decide +kernel]
  simp only [↓reduceIte]
  unfold setAddByScan
  refine wpAny_bind ?_
  refine wpAny_bind (wpAny_rule ?_)
  refine wpAny_bind ?_
  show wpAny _ _ (setScanFrom a (.bool true) 1 true [(1, .bool true)] 0) _ _ _
  unfold setScanFrom
  rw [if_pos (by decide)]
  refine wpAny_bind (wpAny_setEpoch_of (es := #[(1, .bool true)]) (ep := 1) (t := tab1 led) ho' rfl rfl ?_)
  refine wpAny_bind (PySem.SeqAt.EqAt.bool_bool true true _ _ _ _ ?_)
  simp only [Bool.and_true, beq_self_eq_true, ↓reduceIte]
  refine wpAny_pure (wpAny_pure (wpAny_pure ?_))
  show wpAny _ _ (ret Value.none) _ _ _
  exact wpAny_pure ⟨_, rfl, h⟩
end
end Mine
end

section
open PySem PySem.W PyProof.Rows PySem.Spec PyProof.Rows.LCg
set_option maxRecDepth 100000
set_option maxHeartbeats 4000000
set_option Elab.async false
namespace Mine
open PySem.F
theorem owner_set_iterator : Manifest.owners.lookup (String.ofList ['r', 'o', 't', 'a', 'r', 'e', 't', 'i', '_', 't', 'e', 's'].reverse) = some Manifest.sig_set_iterator := by kernel_rfl
theorem slot_seti_next : Slot "set_iterator" "__next__" "set_iterator.__next__" :=
  .of (owner := "set_iterator") (n := "__next__") (by rw [typeLookup_type, builtinLookup_eq_fast]; kernel_rfl) (by decide +kernel) (by decide +kernel) (by decide +kernel)
    (by first | exact .inl (by decide +kernel) | exact .inr (by decide +kernel)) (by rw [isSubtype_type]; kernel_rfl)
theorem args_seti_next_1 (a : Value) : argsOk "set_iterator.__next__" ⟨[a], []⟩ := by
  unfold argsOk; rw [signature?_of (id := "set_iterator.__next__") (n := ['_', '_', 't', 'x', 'e', 'n', '_', '_']) (o := ['r', 'o', 't', 'a', 'r', 'e', 't', 'i', '_', 't', 'e', 's']) (by kernel_rfl) owner_set_iterator]; kernel_rfl
theorem entry_seti_next : entryFor table "set_iterator.__next__" = some Builtin.«set_iterator.__next__» := entryFor_of_tree (by kernel_rfl)
theorem entry_set_iter' : entryFor table "set.__iter__" = some Builtin.«frozenset.__iter__» :=
  entryFor_alias (id' := "frozenset.__iter__") (by kernel_rfl) (by first | rfl | decide +kernel | (unfold String.splitOn; simp +decide [String.splitOnAux])) (by decide +kernel) (by kernel_rfl)
end Mine
end

section
open PySem PySem.W PyProof.Rows PySem.Spec PyProof.Rows.LCg
set_option maxRecDepth 100000
set_option maxHeartbeats 4000000
set_option Elab.async false
namespace Mine
abbrev setiObj (a : Addr) (v i : Value) : Obj := { cls := .type "set_iterator", data := .fields #[v, i, .ref a, rawInt 1, rawInt 1] }
section
variable {prog : Program} {w : World} {A : Around} {E : Value → Shared → Prop} {s : Shared}
theorem iter_set1 {a : Addr} {Q : Value → Shared → Prop} (ho : s.heap.get? a = some (setT1 (ledOf w))) (h : Q (.ref s.heap.objs.size) { s with heap := s.heap.push (setiObj a (rawInt 0) (rawInt 0)) }) :
    wpAny (model prog w) A (pyIter (.ref a)) Q E s := by
  have hT : s.TypeIs (.ref a) "set" := ⟨_, ho, rfl⟩
  have hst : ∀ (B : Around) (Q' : (Array (Int × Value) × Nat × SetTable) → Shared → Prop) (E' : Value → Shared → Prop), Q' (#[(1, .bool true)], 1, tab1 (ledOf w)) s → wpAny (model prog w) B (setState a) Q' E' s :=
    fun B Q' E' hq => wpAny_setState_of (es := #[(1, .bool true)]) (ep := 1) (t := tab1 (ledOf w)) ho rfl rfl hq
  refine wpAny_pyIter_slot hT F.slot_set_iter (wpAny_call_entry F.slot_set_iter hT entry_set_iter' ?_ (F.args_set_iter_1 _))
  unfold Builtin.«frozenset.__iter__» Builtin.Frozenset.slot0
  refine wpAny_bind (wpAny_bind (m := slotArgs "__iter__" 0 ⟨[.ref a], []⟩) (wpAny_of_eq (a := (.ref a, [])) rfl (wpAny_pure ?_)))
  show wpAny _ _ (Builtin.Frozenset.sizeOf a >>= _) _ _ _
  unfold Builtin.Frozenset.sizeOf setEntries
  refine wpAny_bind (wpAny_bind (wpAny_bind (hst _ _ _ (wpAny_pure (wpAny_pure ?_)))))
  unfold setDrawn setsByText
  refine wpAny_bind (wpAny_bind (hst _ _ _ ?_))
  refine wpAny_bind (wpAny_bind (wpAny_askSetting (wpAny_pure ?_)))
  refine wpAny_pure ?_
  show wpAny _ _ (if (!(w.params.followText "set-order") && (!(tab1 (ledOf w)).plain && decide (1 > 1))) = true then _ else _) _ _ _
  rw [if_neg (by simp)]
  refine wpAny_bind (wpAny_pure ?_)
  unfold setEpoch
  refine wpAny_bind (wpAny_bind (hst _ _ _ (wpAny_pure ?_)))
  unfold newFields
  refine wpAny_bind (wpAny_newObj_type ?_ (by first | trivial | size_fits))
  refine wpAny_pure ⟨_, rfl, "set_iterator", _, ⟨_, Heap.get?_push_size _ rfl, rfl⟩, slot_seti_next.lookup, h⟩
theorem below1 (j : Nat) : SetTable.below #[1] j = if 1 < j then 1 else 0 := by
  unfold SetTable.below
  show SetTable.below.go #[1] j 1 0 1 = _
  unfold SetTable.below.go
  simp [SetTable.below.go]
theorem pick1 {α : Type} (f : Nat → Nat) (x : α) : pickOrder f #[x] = #[x] := by
  unfold pickOrder
  show pickOrder.go f 1 0 [x] #[] = _
  unfold pickOrder.go
  simp [Nat.mod_one, pickOrder.go]
theorem seti_item {a I : Addr} {Q : Option Value → Shared → Prop} (haI : a ≠ I) (ho : s.heap.get? a = some (setT1 (ledOf w))) (hi : s.heap.get? I = some (setiObj a (rawInt 0) (rawInt 0)))
    (h : ∀ h' j, Heap.SameBut I s.heap h' → h'.get? I = some (setiObj a (rawInt (j : Nat)) (rawInt 1)) → (w.params.followText "set-order" = false → j = 2) → Q (some (.bool true)) { s with heap := h' }) :
    wpAny (model prog w) A (pyNext (.ref I)) Q E s := by
  have hT : s.TypeIs (.ref I) "set_iterator" := ⟨_, hi, rfl⟩
  have hst : ∀ (B : Around) (Q' : (Array (Int × Value) × Nat × SetTable) → Shared → Prop) (E' : Value → Shared → Prop), Q' (#[(1, .bool true)], 1, tab1 (ledOf w)) s → wpAny (model prog w) B (setState a) Q' E' s :=
    fun B Q' E' hq => wpAny_setState_of (es := #[(1, .bool true)]) (ep := 1) (t := tab1 (ledOf w)) ho rfl rfl hq
  unfold pyNext
  refine wpAny_bind (wpAny_attempt (wpAny_callSpecial?_slot (name := Str.ofString "__next__") hT slot_seti_next (wpAny_call_entry slot_seti_next hT entry_seti_next ?_ (args_seti_next_1 _))))
  unfold Builtin.«set_iterator.__next__»
  refine wpAny_bind (wpAny_of_eq (a := (.ref I, [])) rfl ?_)
  unfold fieldsOf
  refine wpAny_bind (wpAny_bind (wpAny_load hi (wpAny_pure ?_)))
  dsimp only
  unfold setEntries
  refine wpAny_bind (wpAny_bind (hst _ _ _ (wpAny_pure ?_)))
  rw [if_neg (by show ¬ ((((1 : Nat) : Int) != 1) = true); decide)]
  have hnext : ∀ (B : Around) (Q' : Option (Value × Nat) → Shared → Prop) (E' : Value → Shared → Prop), (∀ j, (w.params.followText "set-order" = false → j = 2) → Q' (some (.bool true, j)) s) → wpAny (model prog w) B (setNext a 0 0 1) Q' E' s := by
    intro B Q' E' hq
    unfold setNext setsByText
    refine wpAny_bind (hst _ _ _ ?_)
    dsimp only
    refine wpAny_bind (wpAny_bind (wpAny_askSetting (wpAny_pure ?_)))
    cases hb : w.params.followText "set-order" with
    | true =>
      rw [if_pos (by exact hb)]
      rw [if_neg (by decide)]
      unfold setWalk setsByText
      refine wpAny_bind (wpAny_bind (hst _ _ _ ?_))
      dsimp only
      refine wpAny_bind (wpAny_bind (wpAny_askSetting (wpAny_pure ?_)))
      rw [if_pos (by exact hb)]
      refine wpAny_bind (wpAny_askSetting (wpAny_pure ?_))
      rw [pick1]
      exact wpAny_pure (hq 0 (by rw [hb]; intro x; cases x))
    | false =>
      rw [if_neg (by rw [show (model prog w).w.params.followText "set-order" = false from hb]; exact Bool.false_ne_true)]
      show wpAny _ _ (if (!(tab1 (ledOf w)).plain && decide (1 > 1)) = true then _ else _) _ _ _
      rw [if_neg (by simp)]
      refine wpAny_bind ?_
      show wpAny _ _ (if (!(ledOf w) && !false) = true then _ else _) _ _ _
      rw [if_neg (by simp [ledOf, hb])]
      refine wpAny_pure ?_
      rw [show (tab1 (ledOf w)).place = #[1] from rfl, below1]
      exact wpAny_pure (hq 2 fun _ => rfl)
  show wpAny _ _ (setNext a 0 0 1 >>= _) _ _ _
  refine wpAny_bind (hnext _ _ _ fun j hj => ?_)
  dsimp only
  refine wpAny_bind (wpAny_setField_rec hi (by simp) fun h1 hi1 hs1 => ?_)
  refine wpAny_bind (wpAny_setField_rec hi1 (by simp) fun h2 hi2 hs2 => ?_)
  exact wpAny_pure ⟨_, rfl, wpAny_pure (h h2 j (hs1.trans hs2) hi2 hj)⟩
theorem seti_end {a I : Addr} {j : Nat} {Q : Option Value → Shared → Prop} (hh : A.handled = none) (ho : s.heap.get? a = some (setT1 (ledOf w))) (hi : s.heap.get? I = some (setiObj a (rawInt (j : Nat)) (rawInt 1))) (hj : w.params.followText "set-order" = false → j = 2)
    (h : ∀ h', Heap.ExtBut I s.heap h' → Q none { s with heap := h' }) :
    wpAny (model prog w) A (pyNext (.ref I)) Q E s := by
  have hT : s.TypeIs (.ref I) "set_iterator" := ⟨_, hi, rfl⟩
  have hst : ∀ (B : Around) (Q' : (Array (Int × Value) × Nat × SetTable) → Shared → Prop) (E' : Value → Shared → Prop), Q' (#[(1, .bool true)], 1, tab1 (ledOf w)) s → wpAny (model prog w) B (setState a) Q' E' s :=
    fun B Q' E' hq => wpAny_setState_of (es := #[(1, .bool true)]) (ep := 1) (t := tab1 (ledOf w)) ho rfl rfl hq
  unfold pyNext
  refine wpAny_bind (wpAny_attempt (wpAny_callSpecial?_slot (name := Str.ofString "__next__") hT slot_seti_next (wpAny_call_entry slot_seti_next hT entry_seti_next ?_ (args_seti_next_1 _))))
  unfold Builtin.«set_iterator.__next__»
  refine wpAny_bind (wpAny_of_eq (a := (.ref I, [])) rfl ?_)
  unfold fieldsOf
  refine wpAny_bind (wpAny_bind (wpAny_load hi (wpAny_pure ?_)))
  dsimp only
  unfold setEntries
  refine wpAny_bind (wpAny_bind (hst _ _ _ (wpAny_pure ?_)))
  rw [if_neg (by show ¬ ((((1 : Nat) : Int) != 1) = true); decide)]
  have hnext : ∀ (B : Around) (Q' : Option (Value × Nat) → Shared → Prop) (E' : Value → Shared → Prop), Q' none s → wpAny (model prog w) B (setNext a j 1 1) Q' E' s := by
    intro B Q' E' hq
    unfold setNext setsByText
    refine wpAny_bind (hst _ _ _ ?_)
    dsimp only
    refine wpAny_bind (wpAny_bind (wpAny_askSetting (wpAny_pure ?_)))
    cases hb : w.params.followText "set-order" with
    | true =>
      rw [if_pos (by exact hb)]
      rw [if_neg (by decide)]
      unfold setWalk setsByText
      refine wpAny_bind (wpAny_bind (hst _ _ _ ?_))
      dsimp only
      refine wpAny_bind (wpAny_bind (wpAny_askSetting (wpAny_pure ?_)))
      rw [if_pos (by exact hb)]
      refine wpAny_bind (wpAny_askSetting (wpAny_pure ?_))
      rw [pick1]
      exact wpAny_pure hq
    | false =>
      rw [if_neg (by rw [show (model prog w).w.params.followText "set-order" = false from hb]; exact Bool.false_ne_true)]
      show wpAny _ _ (if (!(tab1 (ledOf w)).plain && decide (1 > 1)) = true then _ else _) _ _ _
      rw [if_neg (by simp)]
      refine wpAny_bind ?_
      show wpAny _ _ (if (!(ledOf w) && !false) = true then _ else _) _ _ _
      rw [if_neg (by simp [ledOf, hb])]
      refine wpAny_pure ?_
      rw [show (tab1 (ledOf w)).place = #[1] from rfl, below1, hj hb]
      exact wpAny_pure hq
  show wpAny _ _ (setNext a (((j : Nat) : Int)).toNat 1 1 >>= _) _ _ _
  rw [Int.toNat_natCast]
  refine wpAny_bind (hnext _ _ _ ?_)
  dsimp only
  refine wpAny_bind (wpAny_setField_rec hi (by simp) fun h1 hi1 hs1 => ?_)
  show wpAny _ _ (newExc (.type "StopIteration") [] >>= _) _ _ _
  refine wpAny_bind ?_
  simp only [newExc, newTuple]
  refine wpAny_bind (wpAny_newObj_type ?_ (by size_fits))
  refine wpAny_bind (m := firstArgMember _ _) (wpAny_of_eq (a := Value.none) (by first | rfl | (simp only [firstArgMember]; rfl)) ?_)
  refine wpAny_newObj_type ?_ (by size_fits)
  simp only [raiseNew]
  refine wpAny_bind (wpAny_handled ?_)
  first | rw [show A.in1.handled = none from hh] | rw [hh]
  refine wpAny_bind (wpAny_pure (wpAny_throw ?_))
  refine wpAny_bind (wpAny_isInstance (T := "StopIteration") (b := true) ⟨_, Heap.get?_push_size _ rfl, rfl⟩ isSubtype_stop ?_)
  exact wpAny_pure (h _ ((hs1.extBut.push _).push _))
/-- one target, a set of True -/
theorem unpack_true {env : Env} {t : PySem.Expr} {x1} {pos : Pos} {a : Addr} {Q : Unit → Shared → Prop} (hh : A.handled = none) (ho : s.heap.get? a = some (setT1 (ledOf w)))
    (hn : assignEach [t] env = [(false, assign t env)]) (h : ∀ h', Heap.ExtBut s.heap.objs.size s.heap h' → wpAny (model prog w) A (assign t env (.bool true)) Q E { s with heap := h' }) :
    wpAny (model prog w) A (assign (.Tuple [t] x1 pos) env (.ref a)) Q E s := by
  rw [arm_assign_Tuple]
  have hT : s.TypeIs (.ref a) "set" := ⟨_, ho, rfl⟩
  have hlt : a ≠ s.heap.objs.size := Nat.ne_of_lt (Heap.lt_size ho)
  refine wpAny_bind (wpAny_standAt ?_)
  rw [hn]
  unfold unpack
  refine wpAny_bind (wpAny_holding ?_)
  show wpAny _ _ (unpackItems (.ref a) 1 none) _ _ _
  unfold unpackItems
  refine wpAny_bind ?_
  unfold notIterableAtAll
  refine wpAny_bind (wpAny_specialOf hT F.slot_set_iter.lookup ?_)
  refine wpAny_pure ?_
  simp only [Bool.false_eq_true, if_false]
  refine wpAny_bind (wpAny_holding (iter_set1 ho ?_))
  have ho1 : (s.heap.push (setiObj a (rawInt 0) (rawInt 0))).get? a = some (setT1 (ledOf w)) := Heap.get?_push_of_some _ ho
  refine wpAny_bind (wpAny_holding ?_)
  show wpAny _ _ (pyNext _ >>= _) _ _ _
  refine wpAny_bind (seti_item hlt ho1 (Heap.get?_push_size _ rfl) fun h1 j hs1 hi1 hj => ?_)
  refine wpAny_bind (wpAny_holding (wpAny_pure (wpAny_pure ?_)))
  rw [if_neg (by simp)]
  have ho2 : h1.get? a = some (setT1 (ledOf w)) := hs1.extBut _ _ hlt ho1
  refine wpAny_bind (wpAny_holding (seti_end hh ho2 hi1 hj fun h2 he2 => ?_))
  simp only [Option.isSome_none, Bool.false_eq_true, if_false]
  refine wpAny_pure ?_
  show wpAny _ _ (assignInOrder [assign t env] [.bool true]) _ _ _
  refine wpAny_bind (wpAny_holding (wpAny_mono (h h2 fun b o hb e => he2 b o hb (hs1.extBut b o hb (Heap.get?_push_of_some _ e))) (fun _ _ hq => ?_) fun _ _ e => e))
  exact wpAny_pure hq
end
end Mine
end

section
open PySem PySem.W PyProof.Rows PySem.Spec PyProof.Rows.LCg
set_option maxRecDepth 100000
set_option maxHeartbeats 4000000
set_option Elab.async false
namespace Mine
theorem compTurn_set (elt target iter : PySem.Expr) (scope : Scope) (pos : Pos) (it acc : Value) (env : Env) :
    compTurn (.SetComp elt [⟨target, iter, [], 0⟩] scope pos) 0 it acc env = (do
      standAt iter.pos
      match ← pyNext it with
      | none => pure (.done .next)
      | some v =>
        letOwnedTupleGo target it v
        assign target env v
        let mut ok := true
        for c in ([] : List PySem.Expr) do
          if ok then ok ← isTrue c env (eval c env)
        if ok then
          (do let v ← eval elt env; standAt elt.pos; let _ ← call (.builtin "set.add") [acc, v])
        again (.compLoop (.SetComp elt [⟨target, iter, [], 0⟩] scope pos) 0 it acc env)) := by rfl
section
variable {prog : Program} {w : World} {A : Around} {E : Value → Shared → Prop} {R : Result → Shared → Prop} {s : Shared}
theorem newSet_true {Q : Value → Shared → Prop} (h : Q (.ref s.heap.objs.size) { s with heap := s.heap.push (setT0 (ledOf w)) }) : wpAny (model prog w) A (newSet (.type "set")) Q E s := by
  unfold newSet setsByText
  refine wpAny_bind (wpAny_bind (wpAny_askSetting (wpAny_pure ?_)))
  refine wpAny_newObj_type ?_ (by first | trivial | size_fits)
  exact h
theorem compStart_set {elt target iter : PySem.Expr} {scope : Scope} {pos : Pos} {it acc : Value} {env : Env}
    (h0 : codeAny (model prog w) A (.compLoop (.SetComp elt [⟨target, iter, [], 0⟩] scope pos) 0 it acc env) R s)
    (h : wpAny (model prog w) A (pyIter it) (fun it' s' => codeAny (model prog w) A (.compLoop (.SetComp elt [⟨target, iter, [], 0⟩] scope pos) 0 it' acc env) R s')
      (notedBy (model prog w) A env fun x s' => R (.error x) s') s) :
    codeAny (model prog w) A (.compStart (.SetComp elt [⟨target, iter, [], 0⟩] scope pos) 0 it acc env) R s := by
  refine codeAny_of_tree ?_
  show wpAny _ _ ((compStart (.SetComp elt [⟨target, iter, [], 0⟩] scope pos) 0 it acc env).onRaise (fun x => do noteFrame x env; standAt theWindowsPlace)) _ _ s
  refine wpAny_notedAt ?_
  unfold compStart
  show wpAny _ _ (ask >>= _) _ _ s
  refine wpAny_bind (wpAny_askSetting (wpAny_ite ?_))
  split
  · first
      | exact wpAny_bind (wpAny_pure (wpAny_pure (And.intro rfl h0)))
      | exact wpAny_pure (And.intro rfl h0)
  · first
      | exact wpAny_bind (wpAny_rule (wpAny_bind (wpAny_standAt (wpAny_bind (wpAny_mono h (fun it' s' h' => wpAny_pure (And.intro rfl h')) fun _ _ x => x)))))
      | (refine wpAny_bind (wpAny_rule ?_); show wpAny _ _ (standAt iter.pos >>= _) _ _ s; exact wpAny_bind (wpAny_standAt (wpAny_bind (wpAny_mono h (fun it' s' h' => wpAny_pure (And.intro rfl h')) fun _ _ x => x))))
theorem compLoop_set {elt target iter : PySem.Expr} {scope : Scope} {pos : Pos} {it acc : Value} {env : Env} (I : Nat → Shared → Prop)
    (turn : ∀ n s, I n s → wpAny (model prog w) A (pyNext it) (fun r s₁ => match r with
      | none => R (.ok .next) s₁
      | some v => wpAny (model prog w) A (assign target env v) (fun _ s₂ => wpAny (model prog w) A (eval elt env) (fun x s₄ =>
              wpAny (model prog w) A (call (.builtin "set.add") [acc, x]) (fun _ s₅ => ∃ m, m < n ∧ I m s₅) (notedBy (model prog w) A env fun e s' => R (.error e) s') s₄) (notedBy (model prog w) A env fun e s' => R (.error e) s') s₂) (notedBy (model prog w) A env fun e s' => R (.error e) s') s₁) (notedBy (model prog w) A env fun e s' => R (.error e) s') s)
    (n : Nat) (h : I n s) (ht : ∀ v, letOwnedTupleGo target it v = pure () := by intro _; rfl) :
    codeAny (model prog w) A (.compLoop (.SetComp elt [⟨target, iter, [], 0⟩] scope pos) 0 it acc env) R s := by
  refine codeAny_loop rfl I (fun n s hI => ?_) n h
  show wpAny _ A ((compTurn (.SetComp elt [⟨target, iter, [], 0⟩] scope pos) 0 it acc env).onRaise (fun x => do noteFrame x env; theTreesLotGoes x)) _ _ s
  refine wpAny_noted ?_
  rw [compTurn_set]
  refine wpAny_bind (wpAny_standAt (wpAny_bind (wpAny_mono (turn n s hI) (fun r s₁ h₁ => ?_) fun _ _ h' => h')))
  cases r with
  | none => exact wpAny_pure h₁
  | some v =>
    refine wpAny_bind (wpAny_of_eq (ht v) ?_)
    refine wpAny_bind (wpAny_mono h₁ (fun _ s₂ h₂ => wpAny_bind (wpAny_pure ?_)) fun _ _ h' => h')
    exact wpAny_bind (wpAny_bind (wpAny_mono h₂ (fun x s₄ h₄ => wpAny_bind (wpAny_standAt (wpAny_bind (wpAny_mono h₄ (fun _ s₅ h₅ => wpAny_pure (wpAny_pure ⟨rfl, h₅⟩)) fun _ _ h' => h')))) fun _ _ h' => h'))
end
section
variable {prog : Program} {w : World} {A : Around} {E : Value → Shared → Prop} {s : Shared} {h₀ : Heap} {L : Addr} {m : Str → Option Value} {env : Env}
def setTi (led : Bool) (i : Nat) : Obj := if i = 0 then setT0 led else setT1 led
def TrueEnd (h₀ : Heap) (L : Addr) (m : Str → Option Value) (s₁ : Shared) (all : List (Addr × Obj)) (y : Value) (s' : Shared) : Prop := y = .bool true ∧ ∃ h' tk', s' = { s₁ with heap := h', toks := tk' } ∧ Fr h₀ L h' m ∧ News h₀ L h' all
theorem TrueEnd.intro {all all' : List (Addr × Obj)} {s₁ : Shared} {b : Bool} {h' : Heap} {tk' : Nat} (hb : b = true) (F : Fr h₀ L h' m) (N : News h₀ L h' all') (hs : ∀ p ∈ all, p ∈ all') : TrueEnd h₀ L m s₁ all (.bool b) { s₁ with heap := h', toks := tk' } :=
  ⟨by rw [hb], h', tk', rfl, F, fun p hp => N p (hs p hp)⟩
def CompSetT (prog : Program) (w : World) (A : Around) (h₀ : Heap) (L : Addr) (m : Str → Option Value) (env : Env) (elt : PySem.Expr) (x : Str) (scope : Scope) (cl : List (Str × Addr)) (Q : Value → Shared → Prop) (xv : Value) (s₁ : Shared) : Prop :=
  ∃ ax vs news, xv = .ref ax ∧ A.handled = none ∧ Fr h₀ L s₁.heap m ∧ News h₀ L s₁.heap news ∧ (ax, tupObj vs) ∈ news ∧ vs.length ≤ 100 ∧ 0 < vs.length ∧
    (∀ i v I oI C oC S m₂ h tk (E' : Value → Shared → Prop), vs[i]? = some v → NsObj oC m₂ → m₂ x = some v → Fr h₀ L h m → News h₀ L h ((I, oI) :: (C, oC) :: (S, setTi (ledOf w) i) :: news) →
      wpAny (model prog w) A (eval elt (compEnvC scope cl C env)) (TrueEnd h₀ L m s₁ ((I, oI) :: (C, oC) :: (S, setTi (ledOf w) i) :: news)) E' { s₁ with heap := h, toks := tk }) ∧
    ∀ S h tk, Fr h₀ L h m → News h₀ L h ((S, setT1 (ledOf w)) :: news) → (∀ p ∈ news, p.1 ≠ S) → Q (.ref S) { s₁ with heap := h, toks := tk }
theorem CompSetT.mk {elt : PySem.Expr} {x : Str} {scope : Scope} {cl : List (Str × Addr)} {Q : Value → Shared → Prop} {ax : Addr} {vs : List Value} {news : List (Addr × Obj)} {s₁ : Shared}
    (hh : A.handled = none) (F : Fr h₀ L s₁.heap m) (N : News h₀ L s₁.heap news) (hm : (ax, tupObj vs) ∈ news) (hz : vs.length ≤ 100) (hp : 0 < vs.length)
    (h : ∀ i v I oI C oC S m₂ h tk (E' : Value → Shared → Prop), vs[i]? = some v → NsObj oC m₂ → m₂ x = some v → Fr h₀ L h m → News h₀ L h ((I, oI) :: (C, oC) :: (S, setTi (ledOf w) i) :: news) →
      wpAny (model prog w) A (eval elt (compEnvC scope cl C env)) (TrueEnd h₀ L m s₁ ((I, oI) :: (C, oC) :: (S, setTi (ledOf w) i) :: news)) E' { s₁ with heap := h, toks := tk })
    (hQ : ∀ S h tk, Fr h₀ L h m → News h₀ L h ((S, setT1 (ledOf w)) :: news) → (∀ p ∈ news, p.1 ≠ S) → Q (.ref S) { s₁ with heap := h, toks := tk }) : CompSetT prog w A h₀ L m env elt x scope cl Q (.ref ax) s₁ :=
  ⟨ax, vs, news, rfl, hh, F, N, hm, hz, hp, h, hQ⟩
theorem SetComp_tup {elt iter : PySem.Expr} {x : Str} {px : Pos} {scope : Scope} {cl : List (Str × Addr)} {pos : Pos} {Q : Value → Shared → Prop} (_F₀ : Fr h₀ L s.heap m)
    (hclos : closureFor scope env = pure cl) (hcell : ∀ z ∈ scope.names, z.2 ≠ .cell) (hkind : scope.kind = .function)
    (hnames : ∀ z ∈ scope.names, z.2 = .local → scope.names.lookup z.1 = some .local) (hx : scope.names.lookup x = some .local)
    (h : wpAny (model prog w) A (eval iter env) (CompSetT prog w A h₀ L m env elt x scope cl Q) E s)
    (hs : ∀ x, foldedSetIterable iter env x = pure x := by intro _; rfl) :
    wpAny (model prog w) A (eval (.SetComp elt [⟨.Name x px, iter, [], 0⟩] scope pos) env) Q E s := by
  rw [arm_eval_SetComp]
  refine wpAny_comprehension_free (use := none) rfl hs hclos hkind hnames (wpAny_mono h (fun xv s₁ h₁ => ?_) fun _ _ e => e)
  obtain ⟨ax, vs, news, rfl, hh, F, N, hm, hsz, hpos, turn, hQ⟩ := h₁
  have hl : s₁.heap.IsTuple ax vs.toArray := ⟨_, (N _ hm).1, rfl, _, rfl⟩
  have hlt : ax < s₁.heap.objs.size := Heap.lt_size (N _ hm).1
  refine wpAny_pyIter_tuple hl ?_
  have F1 : Fr h₀ L (s₁.heap.push { cls := .type "tuple_iterator", data := .fields #[.ref ax, .int 0 0] }) m := F.push _
  have N1 := News.push F N { cls := .type "tuple_iterator", data := .fields #[.ref ax, .int 0 0] }
  generalize hH1 : s₁.heap.push { cls := .type "tuple_iterator", data := .fields #[.ref ax, .int 0 0] } = H1 at F1 N1 ⊢
  generalize hI : s₁.heap.objs.size = I at N1 ⊢
  have hltI : ∀ p ∈ news, p.1 < I := fun p hp => by rw [← hI]; exact Heap.lt_size (N p hp).1
  refine newSet_true ?_
  have N2 := News.push F1 N1 (setT0 (ledOf w))
  have F2 : Fr h₀ L (H1.push (setT0 (ledOf w))) m := F1.push _
  have hS0 : ∀ p ∈ (I, ({ cls := .type "tuple_iterator", data := .fields #[.ref ax, .int 0 0] } : Obj)) :: news, p.1 < H1.objs.size := fun p hp => Heap.lt_size (N1 p hp).1
  dsimp only
  generalize hS : H1.objs.size = S at N2 hS0 ⊢
  generalize hH2 : H1.push (setT0 (ledOf w)) = H2 at F2 N2 ⊢
  refine wpAny_newFunctionEnv hcell (by intro y hy; simp at hy) (fun h3 hns3 hsb3 => ?_) hkind
  dsimp only at hns3 hsb3 ⊢
  have hC : ∀ p ∈ (S, setT0 (ledOf w)) :: (I, ({ cls := .type "tuple_iterator", data := .fields #[.ref ax, .int 0 0] } : Obj)) :: news, p.1 < H2.objs.size := fun p hp => Heap.lt_size (N2 p hp).1
  have hC0 : H2.objs.size ≠ L ∧ h₀.get? H2.objs.size = none := ⟨Nat.ne_of_gt F2.ns.lt, fresh_none F2⟩
  generalize hCC : H2.objs.size = C at hns3 hsb3 hC hC0 ⊢
  have hCI : I ≠ C := Nat.ne_of_lt (hC _ (.tail _ (.head _)))
  have hCS : S ≠ C := Nat.ne_of_lt (hC _ (.head _))
  have hSI : S ≠ I := Nat.ne_of_gt (hS0 _ (.head _))
  have hoffC : ∀ p ∈ news, p.1 ≠ C := fun p hp => Nat.ne_of_lt (hC _ (.tail _ (.tail _ hp)))
  have hoffS : ∀ p ∈ news, p.1 ≠ S := fun p hp => Nat.ne_of_lt (hS0 _ (.tail _ hp))
  have hoffI : ∀ p ∈ news, p.1 ≠ I := fun p hp => Nat.ne_of_lt (hltI p hp)
  have F3 : Fr h₀ L h3 m := (F2.push _).change hsb3 hC0.1 hC0.2
  have N3 : News h₀ L h3 ((S, setTi (ledOf w) 0) :: (I, ({ cls := .type "tuple_iterator", data := .fields #[.ref ax, .int 0 0] } : Obj)) :: news) := fun p hp => ⟨hsb3.extBut _ _ (Nat.ne_of_lt (hC p hp)) (Heap.get?_push_of_some _ (N2 p hp).1), (N2 p hp).2⟩
  have hSL := (N3 _ (.head _)).2
  have hIL := (N3 _ (.tail _ (.head _))).2
  clear F2 N2 hsb3 F1 N1
  have loop : ∀ s₃ : Shared, (∃ tk, s₃ = { s₁ with heap := h3, toks := tk }) →
      codeAny (model prog w) A (.compLoop (.SetComp elt [⟨.Name x px, iter, [], 0⟩] scope pos) 0 (.ref I) (.ref S) (compEnvC scope cl C env)) (compPost (model prog w) A E none Q (.ref S) C) s₃ := by
    rintro s₃ ⟨tk0, rfl⟩
    refine compLoop_set (fun k s' => ∃ h' tk i m' oI, s' = { s₁ with heap := h', toks := tk } ∧ i ≤ vs.length ∧ k = vs.length + 1 - i ∧ h'.Ns C m' ∧ (oI.cls = .type "tuple_iterator" ∧ oI.data = .fields #[.ref ax, .int i 0]) ∧ Fr h₀ L h' m ∧ News h₀ L h' ((S, setTi (ledOf w) i) :: (I, oI) :: news)) ?_ (vs.length + 1)
      ⟨h3, tk0, 0, _, _, rfl, Nat.zero_le _, rfl, hns3, ⟨rfl, rfl⟩, F3, N3⟩
    rintro k s' ⟨h', tk, i, m', oI, rfl, hi, rfl, hn', hoI, F', N'⟩
    have zI := (N' _ (.tail _ (.head _))).1
    have hl' : h'.IsTuple ax vs.toArray := ⟨_, (N' _ (.tail _ (.tail _ hm))).1, rfl, _, rfl⟩
    by_cases hlt2 : i < vs.length
    · have hv : vs[i]? = some vs[i] := List.getElem?_eq_getElem hlt2
      refine wpAny_pyNext_tuple_item (s := { s₁ with heap := h', toks := tk }) (x := vs[i]) ⟨oI, zI, hoI⟩ hl' (by rw [List.getElem?_toArray]; exact hv) fun h4 hit4 hs4 => ?_
      obtain ⟨oI4, e4, hoI4⟩ := hit4
      refine wpAny_assign_Name (wpAny_storeName_local (lookup_relabel_local hx) (hn'.sameBut hs4 (Ne.symm hCI)) (fun h5 hn5 hs5 => ?_) (by simp [compEnvC, relabel, hkind]))
      obtain ⟨oC, heC, hoC⟩ := ns_obj hn5
      have F5 : Fr h₀ L h5 m := (F'.change hs4 hIL.1 hIL.2).change hs5 hC0.1 hC0.2
      have up : ∀ b o, b ≠ I → b ≠ C → h'.get? b = some o → h5.get? b = some o := fun b o h1 h2 e => hs5.extBut b o h2 (hs4.extBut b o h1 e)
      have N5 : News h₀ L h5 ((I, oI4) :: (C, oC) :: (S, setTi (ledOf w) i) :: news) := fun p hp => by
        simp only [List.mem_cons] at hp
        rcases hp with rfl | rfl | rfl | hp
        · exact ⟨hs5.extBut _ _ hCI e4, hIL⟩
        · exact ⟨heC, hC0⟩
        · exact ⟨up _ _ hSI hCS (N' _ (.head _)).1, hSL⟩
        · exact ⟨up _ _ (hoffI p hp) (hoffC p hp) (N' p (.tail _ (.tail _ hp))).1, (N' p (.tail _ (.tail _ hp))).2⟩
      refine wpAny_mono (turn i vs[i] I oI4 C oC S _ h5 _ _ hv hoC (by simp) F5 N5) (fun y s6 h6 => ?_) fun _ _ e => e
      obtain ⟨rfl, h6, tk6, rfl, F6, N6⟩ := h6
      have zS := (N6 _ (.tail _ (.tail _ (.head _)))).1
      have zC := (N6 _ (.tail _ (.head _))).1
      have zI6 := (N6 _ (.head _)).1
      rcases Nat.eq_zero_or_pos i with rfl | hi0
      · refine add_true0 (led := ledOf w) zS fun h7 hs7 hS7 => ?_
        refine ⟨vs.length + 1 - (0 + 1), by exact Nat.le_refl _, h7, _, 0 + 1, _, oI4, rfl, by assumption, rfl, (hoC.ns zC).sameBut hs7 (Ne.symm hCS), hoI4, F6.change hs7 hSL.1 hSL.2, fun p hp => ?_⟩
        simp only [List.mem_cons] at hp
        rcases hp with rfl | rfl | hp
        · exact ⟨hS7, hSL⟩
        · exact ⟨hs7.extBut _ _ (Ne.symm hSI) zI6, hIL⟩
        · have z := N6 p (.tail _ (.tail _ (.tail _ hp)))
          exact ⟨hs7.extBut _ _ (hoffS p hp) z.1, z.2⟩
      · have e1 : ∀ j, 0 < j → setTi (ledOf w) j = setT1 (ledOf w) := fun j hj => by unfold setTi; rw [if_neg (by exact Nat.ne_of_gt (by assumption))]
        rw [e1 i hi0] at zS N6
        refine add_true1 (led := ledOf w) zS ?_
        refine ⟨vs.length + 1 - (i + 1), by first | grind | omega, h6, _, i + 1, _, oI4, rfl, by assumption, rfl, hoC.ns zC, hoI4, F6, fun p hp => ?_⟩
        rw [e1 (i + 1) (by exact Nat.lt_succ_of_lt (by assumption))] at hp
        simp only [List.mem_cons] at hp
        rcases hp with rfl | rfl | hp
        · exact N6 _ (.tail _ (.tail _ (.head _)))
        · exact N6 _ (.head _)
        · exact N6 p (.tail _ (.tail _ (.tail _ hp)))
    · obtain rfl : i = vs.length := Nat.le_antisymm hi (Nat.not_lt.mp hlt2)
      refine wpAny_pyNext_tuple_end (s := { s₁ with heap := h', toks := tk }) hh ⟨oI, zI, hoI⟩ hl' (by simp) fun h4 he4 => ?_
      have e1 : setTi (ledOf w) vs.length = setT1 (ledOf w) := by unfold setTi; rw [if_neg (by exact Nat.ne_of_gt (by assumption))]
      rw [e1] at N'
      have F4 : Fr h₀ L h4 m := ⟨F'.ns.at' fun o e => he4 _ o (Ne.symm hIL.1) e, fun b o e => he4 b o (fun q => by rw [q, hIL.2] at e; cases e) (F'.keep b o e), F'.above⟩
      refine ⟨m', hn'.at' fun o e => he4 _ o (Ne.symm hCI) e, fun h5 hs5 => ?_⟩
      refine hQ S h5 tk (F4.change hs5 hC0.1 hC0.2) (fun p hp => ?_) hoffS
      rcases List.mem_cons.mp hp with rfl | hp
      · exact ⟨hs5.extBut _ _ hCS (he4 _ _ hSI (N' _ (.head _)).1), hSL⟩
      · have z := N' p (.tail _ (.tail _ hp))
        exact ⟨hs5.extBut _ _ (hoffC p hp) (he4 _ _ (hoffI p hp) z.1), z.2⟩
  refine compStart_set (loop _ ⟨_, rfl⟩) ?_
  refine wpAny_pyIter_tupleiter (t := ax) (i := 0) ⟨_, (N3 _ (.tail _ (.head _))).1, rfl, rfl⟩ ?_
  exact loop _ ⟨_, rfl⟩
end
theorem fr_extNew {h₀ h h' : Heap} {L : Addr} {m : Str → Option Value} (F : Fr h₀ L h m) (he : Heap.ExtBut h.objs.size h h') : Fr h₀ L h' m :=
  ⟨F.ns.at' fun o e => he _ o (Nat.ne_of_lt (Heap.lt_size e)) e, fun b o e => he b o (Nat.ne_of_lt (Heap.lt_size (F.keep b o e))) (F.keep b o e), F.above⟩
theorem news_extNew {h₀ h h' : Heap} {L : Addr} {news : List (Addr × Obj)} (N : News h₀ L h news) (he : Heap.ExtBut h.objs.size h h') : News h₀ L h' news :=
  fun p hp => ⟨he _ _ (Nat.ne_of_lt (Heap.lt_size (N p hp).1)) (N p hp).1, (N p hp).2⟩
end Mine
end

section
open PySem PySem.W PyProof.Rows PySem.Spec
set_option maxRecDepth 100000
set_option maxHeartbeats 4000000
set_option Elab.async false
namespace Mine
section
variable {prog : Program} {w : World} {A : Around} {E : Value → Shared → Prop} {s : Shared} {h₀ : Heap} {L : Addr} {m : Str → Option Value} {news : List (Addr × Obj)}
theorem call_min2 {l : Addr} {a b : Value} {n : Nat} {r : Bool} {Q : Value → Shared → Prop} (hh : A.handled = none) (F : Fr h₀ L s.heap m) (N : News h₀ L s.heap news) (hl : (l, listOf [a, b].toArray n) ∈ news)
    (hcmp : ∀ h tk (Q' E' : Value → Shared → Prop), Fr h₀ L h m → News h₀ L h news → Q' (.bool r) { s with heap := h, toks := tk } → wpAny (model prog w) A.in1 (richCompare .Lt b a) Q' E' { s with heap := h, toks := tk })
    (h : ∀ h' tk, Fr h₀ L h' m → News h₀ L h' news → Q (if r = true then b else a) { s with heap := h', toks := tk }) :
    wpAny (model prog w) A (call (.builtin "min") [.ref l]) Q E s := by
  have hname : (toString "min" ++ toString ".loop" : String) = "min.loop" := by decide
  have hls : s.heap.IsList l [a, b].toArray := PySem.IsL.isList (N _ hl).1
  have hlt : l < s.heap.objs.size := Heap.lt_size (N _ hl).1
  refine call_function_tree PySem.F.kind_min PySem.F.plain_min PySem.F.entry_min (PySem.F.args_min1 _) ?_
  show wpAny _ A.in1 (Builtin.Builtins.bindParams "min" ["key", "default"] 0 ⟨[], []⟩ >>= _) _ _ s
  refine wpAny_bind (wpAny_of_eq (show Builtin.Builtins.bindParams "min" ["key", "default"] 0 ⟨[], []⟩ = pure [none, none] from rfl) ?_)
  refine wpAny_bind (wpAny_pure ?_)
  refine wpAny_bind (wpAny_pyIter_list hls ?_)
  refine wpAny_bind (wpAny_newObj_type ?_)
  have F1 : Fr h₀ L (s.heap.push { cls := .type "list_iterator", data := .fields #[.ref l, .int 0 0] }) m := F.push _
  have N1 := News.push F N { cls := .type "list_iterator", data := .fields #[.ref l, .int 0 0] }
  have N2 := News.push F1 N1 { cls := .type "list", dict := none, data := .seq ([] : List Value).toArray }
  have F2 := F1.push { cls := .type "list", dict := none, data := .seq ([] : List Value).toArray }
  have hlt2 : ∀ p ∈ ((s.heap.objs.size, ({ cls := .type "list_iterator", data := .fields #[.ref l, .int 0 0] } : Obj)) :: news), p.1 < (s.heap.push { cls := .type "list_iterator", data := .fields #[.ref l, .int 0 0] }).objs.size := fun p hp => Heap.lt_size (N1 p hp).1
  have hltI : ∀ p ∈ news, p.1 < s.heap.objs.size := fun p hp => Heap.lt_size (N p hp).1
  dsimp only
  generalize hH1 : s.heap.push { cls := .type "list_iterator", data := .fields #[.ref l, .int 0 0] } = H1 at F1 N1 N2 F2 hlt2 ⊢
  generalize hI : s.heap.objs.size = I at N1 N2 hlt2 hltI ⊢
  generalize hS : H1.objs.size = S at N2 hlt2 ⊢
  generalize hH2 : H1.push { cls := .type "list", dict := none, data := .seq ([] : List Value).toArray } = H2 at N2 F2 ⊢
  have hIS : I ≠ S := Nat.ne_of_lt (hlt2 _ (.head _))
  have hoS : ∀ p ∈ news, p.1 ≠ S := fun p hp => Nat.ne_of_lt (hlt2 _ (.tail _ hp))
  have hoI : ∀ p ∈ news, p.1 ≠ I := fun p hp => Nat.ne_of_lt (hltI p hp)
  have hSL := (N2 _ (.head _)).2
  have hIL := (N2 _ (.tail _ (.head _))).2
  -- what stays when I and S alone change
  have keep : ∀ {H H' : Heap} {c : Addr}, (c = I ∨ c = S) → Heap.SameBut c H H' → Fr h₀ L H m ∧ News h₀ L H news → Fr h₀ L H' m ∧ News h₀ L H' news := by
    intro H H' c hc hs ⟨FF, NN⟩
    rcases hc with rfl | rfl
    · exact ⟨FF.change hs hIL.1 hIL.2, fun p hp => ⟨hs.extBut _ _ (hoI p hp) (NN p hp).1, (NN p hp).2⟩⟩
    · exact ⟨FF.change hs hSL.1 hSL.2, fun p hp => ⟨hs.extBut _ _ (hoS p hp) (NN p hp).1, (NN p hp).2⟩⟩
  have keepE : ∀ {H H' : Heap}, Heap.ExtBut I H H' → Fr h₀ L H m ∧ News h₀ L H news → Fr h₀ L H' m ∧ News h₀ L H' news := by
    intro H H' hs ⟨FF, NN⟩
    exact ⟨⟨FF.ns.at' fun o e => hs _ o (Ne.symm hIL.1) e, fun b o e => hs b o (fun q => by rw [q, hIL.2] at e; cases e) (FF.keep b o e), FF.above⟩, fun p hp => ⟨hs _ _ (hoI p hp) (NN p hp).1, (NN p hp).2⟩⟩
  have hL : ∀ {H : Heap}, News h₀ L H news → H.IsList l [a, b].toArray := fun NN => PySem.IsL.isList (NN _ hl).1
  have s0 : Fr h₀ L H2 m ∧ News h₀ L H2 news := ⟨F2, fun p hp => N2 p (.tail _ (.tail _ hp))⟩
  rw [hname]
  refine wpAny_pure ⟨plainId_quiet PySem.F.plain_min_loop _, codeAny_builtin PySem.F.entry_min_loop ?_⟩
  rw [Around.under_plainId PySem.F.plain_min_loop _]
  have zS2 := (N2 _ (.head _)).1
  have zI2 : H2.IsListIter I l 0 := ⟨_, (N2 _ (.tail _ (.head _))).1, rfl, rfl⟩
  show wpAny _ A.in1 (seqItems? (.ref S) >>= _) _ _ _
  refine wpAny_bind (wpAny_seqItems zS2 rfl ?_)
  show wpAny _ A.in1 (tryCatch (pyNext (.ref I)) _ >>= _) _ _ _
  refine wpAny_bind (wpAny_tryCatch (wpAny_pyNext_list_item (x := a) zI2 (hL s0.2) rfl fun h3 hit3 hs3 => ?_))
  have s3 := keep (.inl rfl) hs3 s0
  have zS3 := hs3.extBut _ _ (Ne.symm hIS) zS2
  show wpAny _ A.in1 (updateSeq S (fun _ => #[a, a]) >>= _) _ _ _
  refine wpAny_bind ?_
  refine wpAny_updateSeq zS3 rfl ?_
  rw [hname]
  have hs4 := Heap.SameBut.update h3 S (Obj.mapSeq fun _ => #[a, a])
  have s4 := keep (.inr rfl) hs4 s3
  have zS4 := Heap.get?_update_self (Obj.mapSeq fun _ => #[a, a]) zS3 rfl
  have zI4 : (h3.update S (Obj.mapSeq fun _ => #[a, a])).IsListIter I l 1 := hit3.extBut hs4.extBut hIS
  dsimp only at zS4 zI4 s4 ⊢
  generalize h3.update S (Obj.mapSeq fun _ => #[a, a]) = h4 at zS4 zI4 s4 ⊢
  refine wpAny_pure ⟨plainId_quiet PySem.F.plain_min_loop _, codeAny_builtin PySem.F.entry_min_loop ?_⟩
  rw [Around.under_plainId PySem.F.plain_min_loop _]
  show wpAny _ A.in1 (seqItems? (.ref S) >>= _) _ _ _
  refine wpAny_bind (wpAny_seqItems zS4 rfl ?_)
  show wpAny _ A.in1 (tryCatch (pyNext (.ref I)) _ >>= _) _ _ _
  refine wpAny_bind (wpAny_tryCatch (wpAny_pyNext_list_item (x := b) zI4 (hL s4.2) rfl fun h5 hit5 hs5 => ?_))
  have s5 := keep (.inl rfl) hs5 s4
  have zS5 := hs5.extBut _ _ (Ne.symm hIS) zS4
  show wpAny _ A.in1 (tryCatch (holding [b, b] (richCompare .Lt b a >>= _)) _ >>= _) _ _ _
  refine wpAny_bind (wpAny_tryCatch (wpAny_holding (wpAny_bind (hcmp h5 _ _ _ s5.1 s5.2 ?_))))
  refine wpAny_bind (wpAny_holding (wpAny_truthy_bool ?_))
  refine wpAny_bind (wpAny_letGo (wpAny_pure ?_))
  have fin : ∀ (c : Value) (h6 : Heap) (k : Nat) (tk : Nat), Fr h₀ L h6 m ∧ News h₀ L h6 news → h6.IsListIter I l 2 → h6.get? S = some { cls := .type "list", dict := none, data := .seq #[c, c] k, slots := #[] } → (∀ h' tk, Fr h₀ L h' m → News h₀ L h' news → Q c { s with heap := h', toks := tk }) →
      codeAny (model prog w) A (.builtin "min.loop" ⟨[.ref I, .none, .ref S], []⟩) (fun r s' => match r with | .ok (.ret v) => Q v s' | .ok _ => False | .error e => E e s') { s with heap := h6, toks := tk } := by
    intro c h6 k tk s6 zI6 zS6 hq
    refine codeAny_builtin PySem.F.entry_min_loop ?_
    rw [Around.under_plainId PySem.F.plain_min_loop _]
    show wpAny _ A.in1 (seqItems? (.ref S) >>= _) _ _ _
    refine wpAny_bind (wpAny_seqItems (s := { s with heap := h6, toks := tk }) zS6 rfl ?_)
    show wpAny _ A.in1 (tryCatch (pyNext (.ref I)) _ >>= _) _ _ _
    refine wpAny_bind (wpAny_tryCatch (wpAny_pyNext_list_end hh zI6 (hL s6.2) rfl fun h7 he7 => ?_))
    have s7 := keepE he7 s6
    have zS7 := he7 _ _ (Ne.symm hIS) zS6
    show wpAny _ A.in1 (updateSeq S (fun _ => #[]) >>= _) _ _ _
    refine wpAny_bind ?_
    refine wpAny_updateSeq zS7 rfl (wpAny_bind (wpAny_letGo (wpAny_pure ?_)))
    have s8 := keep (.inr rfl) (Heap.SameBut.update h7 S (Obj.mapSeq fun _ => #[])) s7
    exact hq _ _ s8.1 s8.2
  cases r with
  | true =>
    simp only [if_true]
    refine wpAny_bind ?_
    refine wpAny_updateSeq zS5 rfl (wpAny_bind (wpAny_letGo ?_))
    rw [hname]
    have hs6 := Heap.SameBut.update h5 S (Obj.mapSeq fun _ => #[b, b])
    have s6 := keep (.inr rfl) hs6 s5
    exact wpAny_pure ⟨plainId_quiet PySem.F.plain_min_loop _, fin b _ _ _ s6 (hit5.extBut hs6.extBut hIS) (Heap.get?_update_self _ zS5 rfl) fun h' tk F' N' => by simpa using h h' tk F' N'⟩
  | false =>
    simp only [Bool.false_eq_true, if_false]
    refine wpAny_bind (wpAny_letGo ?_)
    rw [hname]
    exact wpAny_pure ⟨plainId_quiet PySem.F.plain_min_loop _, fin a _ _ _ s5 hit5 zS5 fun h' tk F' N' => by simpa using h h' tk F' N'⟩
theorem call_max2 {l : Addr} {a b : Value} {n : Nat} {r : Bool} {Q : Value → Shared → Prop} (hh : A.handled = none) (F : Fr h₀ L s.heap m) (N : News h₀ L s.heap news) (hl : (l, listOf [a, b].toArray n) ∈ news)
    (hcmp : ∀ h tk (Q' E' : Value → Shared → Prop), Fr h₀ L h m → News h₀ L h news → Q' (.bool r) { s with heap := h, toks := tk } → wpAny (model prog w) A.in1 (richCompare .Gt b a) Q' E' { s with heap := h, toks := tk })
    (h : ∀ h' tk, Fr h₀ L h' m → News h₀ L h' news → Q (if r = true then b else a) { s with heap := h', toks := tk }) :
    wpAny (model prog w) A (call (.builtin "max") [.ref l]) Q E s := by
  have hname : (toString "max" ++ toString ".loop" : String) = "max.loop" := by decide
  have hls : s.heap.IsList l [a, b].toArray := PySem.IsL.isList (N _ hl).1
  have hlt : l < s.heap.objs.size := Heap.lt_size (N _ hl).1
  refine call_function_tree PySem.F.kind_max PySem.F.plain_max PySem.F.entry_max (PySem.F.args_max1 _) ?_
  show wpAny _ A.in1 (Builtin.Builtins.bindParams "max" ["key", "default"] 0 ⟨[], []⟩ >>= _) _ _ s
  refine wpAny_bind (wpAny_of_eq (show Builtin.Builtins.bindParams "max" ["key", "default"] 0 ⟨[], []⟩ = pure [none, none] from rfl) ?_)
  refine wpAny_bind (wpAny_pure ?_)
  refine wpAny_bind (wpAny_pyIter_list hls ?_)
  refine wpAny_bind (wpAny_newObj_type ?_)
  have F1 : Fr h₀ L (s.heap.push { cls := .type "list_iterator", data := .fields #[.ref l, .int 0 0] }) m := F.push _
  have N1 := News.push F N { cls := .type "list_iterator", data := .fields #[.ref l, .int 0 0] }
  have N2 := News.push F1 N1 { cls := .type "list", dict := none, data := .seq ([] : List Value).toArray }
  have F2 := F1.push { cls := .type "list", dict := none, data := .seq ([] : List Value).toArray }
  have hlt2 : ∀ p ∈ ((s.heap.objs.size, ({ cls := .type "list_iterator", data := .fields #[.ref l, .int 0 0] } : Obj)) :: news), p.1 < (s.heap.push { cls := .type "list_iterator", data := .fields #[.ref l, .int 0 0] }).objs.size := fun p hp => Heap.lt_size (N1 p hp).1
  have hltI : ∀ p ∈ news, p.1 < s.heap.objs.size := fun p hp => Heap.lt_size (N p hp).1
  dsimp only
  generalize hH1 : s.heap.push { cls := .type "list_iterator", data := .fields #[.ref l, .int 0 0] } = H1 at F1 N1 N2 F2 hlt2 ⊢
  generalize hI : s.heap.objs.size = I at N1 N2 hlt2 hltI ⊢
  generalize hS : H1.objs.size = S at N2 hlt2 ⊢
  generalize hH2 : H1.push { cls := .type "list", dict := none, data := .seq ([] : List Value).toArray } = H2 at N2 F2 ⊢
  have hIS : I ≠ S := Nat.ne_of_lt (hlt2 _ (.head _))
  have hoS : ∀ p ∈ news, p.1 ≠ S := fun p hp => Nat.ne_of_lt (hlt2 _ (.tail _ hp))
  have hoI : ∀ p ∈ news, p.1 ≠ I := fun p hp => Nat.ne_of_lt (hltI p hp)
  have hSL := (N2 _ (.head _)).2
  have hIL := (N2 _ (.tail _ (.head _))).2
  -- what stays when I and S alone change
  have keep : ∀ {H H' : Heap} {c : Addr}, (c = I ∨ c = S) → Heap.SameBut c H H' → Fr h₀ L H m ∧ News h₀ L H news → Fr h₀ L H' m ∧ News h₀ L H' news := by
    intro H H' c hc hs ⟨FF, NN⟩
    rcases hc with rfl | rfl
    · exact ⟨FF.change hs hIL.1 hIL.2, fun p hp => ⟨hs.extBut _ _ (hoI p hp) (NN p hp).1, (NN p hp).2⟩⟩
    · exact ⟨FF.change hs hSL.1 hSL.2, fun p hp => ⟨hs.extBut _ _ (hoS p hp) (NN p hp).1, (NN p hp).2⟩⟩
  have keepE : ∀ {H H' : Heap}, Heap.ExtBut I H H' → Fr h₀ L H m ∧ News h₀ L H news → Fr h₀ L H' m ∧ News h₀ L H' news := by
    intro H H' hs ⟨FF, NN⟩
    exact ⟨⟨FF.ns.at' fun o e => hs _ o (Ne.symm hIL.1) e, fun b o e => hs b o (fun q => by rw [q, hIL.2] at e; cases e) (FF.keep b o e), FF.above⟩, fun p hp => ⟨hs _ _ (hoI p hp) (NN p hp).1, (NN p hp).2⟩⟩
  have hL : ∀ {H : Heap}, News h₀ L H news → H.IsList l [a, b].toArray := fun NN => PySem.IsL.isList (NN _ hl).1
  have s0 : Fr h₀ L H2 m ∧ News h₀ L H2 news := ⟨F2, fun p hp => N2 p (.tail _ (.tail _ hp))⟩
  rw [hname]
  refine wpAny_pure ⟨plainId_quiet PySem.F.plain_max_loop _, codeAny_builtin PySem.F.entry_max_loop ?_⟩
  rw [Around.under_plainId PySem.F.plain_max_loop _]
  have zS2 := (N2 _ (.head _)).1
  have zI2 : H2.IsListIter I l 0 := ⟨_, (N2 _ (.tail _ (.head _))).1, rfl, rfl⟩
  show wpAny _ A.in1 (seqItems? (.ref S) >>= _) _ _ _
  refine wpAny_bind (wpAny_seqItems zS2 rfl ?_)
  show wpAny _ A.in1 (tryCatch (pyNext (.ref I)) _ >>= _) _ _ _
  refine wpAny_bind (wpAny_tryCatch (wpAny_pyNext_list_item (x := a) zI2 (hL s0.2) rfl fun h3 hit3 hs3 => ?_))
  have s3 := keep (.inl rfl) hs3 s0
  have zS3 := hs3.extBut _ _ (Ne.symm hIS) zS2
  show wpAny _ A.in1 (updateSeq S (fun _ => #[a, a]) >>= _) _ _ _
  refine wpAny_bind ?_
  refine wpAny_updateSeq zS3 rfl ?_
  rw [hname]
  have hs4 := Heap.SameBut.update h3 S (Obj.mapSeq fun _ => #[a, a])
  have s4 := keep (.inr rfl) hs4 s3
  have zS4 := Heap.get?_update_self (Obj.mapSeq fun _ => #[a, a]) zS3 rfl
  have zI4 : (h3.update S (Obj.mapSeq fun _ => #[a, a])).IsListIter I l 1 := hit3.extBut hs4.extBut hIS
  dsimp only at zS4 zI4 s4 ⊢
  generalize h3.update S (Obj.mapSeq fun _ => #[a, a]) = h4 at zS4 zI4 s4 ⊢
  refine wpAny_pure ⟨plainId_quiet PySem.F.plain_max_loop _, codeAny_builtin PySem.F.entry_max_loop ?_⟩
  rw [Around.under_plainId PySem.F.plain_max_loop _]
  show wpAny _ A.in1 (seqItems? (.ref S) >>= _) _ _ _
  refine wpAny_bind (wpAny_seqItems zS4 rfl ?_)
  show wpAny _ A.in1 (tryCatch (pyNext (.ref I)) _ >>= _) _ _ _
  refine wpAny_bind (wpAny_tryCatch (wpAny_pyNext_list_item (x := b) zI4 (hL s4.2) rfl fun h5 hit5 hs5 => ?_))
  have s5 := keep (.inl rfl) hs5 s4
  have zS5 := hs5.extBut _ _ (Ne.symm hIS) zS4
  show wpAny _ A.in1 (tryCatch (holding [b, b] (richCompare .Gt b a >>= _)) _ >>= _) _ _ _
  refine wpAny_bind (wpAny_tryCatch (wpAny_holding (wpAny_bind (hcmp h5 _ _ _ s5.1 s5.2 ?_))))
  refine wpAny_bind (wpAny_holding (wpAny_truthy_bool ?_))
  refine wpAny_bind (wpAny_letGo (wpAny_pure ?_))
  have fin : ∀ (c : Value) (h6 : Heap) (k : Nat) (tk : Nat), Fr h₀ L h6 m ∧ News h₀ L h6 news → h6.IsListIter I l 2 → h6.get? S = some { cls := .type "list", dict := none, data := .seq #[c, c] k, slots := #[] } → (∀ h' tk, Fr h₀ L h' m → News h₀ L h' news → Q c { s with heap := h', toks := tk }) →
      codeAny (model prog w) A (.builtin "max.loop" ⟨[.ref I, .none, .ref S], []⟩) (fun r s' => match r with | .ok (.ret v) => Q v s' | .ok _ => False | .error e => E e s') { s with heap := h6, toks := tk } := by
    intro c h6 k tk s6 zI6 zS6 hq
    refine codeAny_builtin PySem.F.entry_max_loop ?_
    rw [Around.under_plainId PySem.F.plain_max_loop _]
    show wpAny _ A.in1 (seqItems? (.ref S) >>= _) _ _ _
    refine wpAny_bind (wpAny_seqItems (s := { s with heap := h6, toks := tk }) zS6 rfl ?_)
    show wpAny _ A.in1 (tryCatch (pyNext (.ref I)) _ >>= _) _ _ _
    refine wpAny_bind (wpAny_tryCatch (wpAny_pyNext_list_end hh zI6 (hL s6.2) rfl fun h7 he7 => ?_))
    have s7 := keepE he7 s6
    have zS7 := he7 _ _ (Ne.symm hIS) zS6
    show wpAny _ A.in1 (updateSeq S (fun _ => #[]) >>= _) _ _ _
    refine wpAny_bind ?_
    refine wpAny_updateSeq zS7 rfl (wpAny_bind (wpAny_letGo (wpAny_pure ?_)))
    have s8 := keep (.inr rfl) (Heap.SameBut.update h7 S (Obj.mapSeq fun _ => #[])) s7
    exact hq _ _ s8.1 s8.2
  cases r with
  | true =>
    simp only [if_true]
    refine wpAny_bind ?_
    refine wpAny_updateSeq zS5 rfl (wpAny_bind (wpAny_letGo ?_))
    rw [hname]
    have hs6 := Heap.SameBut.update h5 S (Obj.mapSeq fun _ => #[b, b])
    have s6 := keep (.inr rfl) hs6 s5
    exact wpAny_pure ⟨plainId_quiet PySem.F.plain_max_loop _, fin b _ _ _ s6 (hit5.extBut hs6.extBut hIS) (Heap.get?_update_self _ zS5 rfl) fun h' tk F' N' => by simpa using h h' tk F' N'⟩
  | false =>
    simp only [Bool.false_eq_true, if_false]
    refine wpAny_bind (wpAny_letGo ?_)
    rw [hname]
    exact wpAny_pure ⟨plainId_quiet PySem.F.plain_max_loop _, fin a _ _ _ s5 hit5 zS5 fun h' tk F' N' => by simpa using h h' tk F' N'⟩
end
end Mine
end

section
open PySem PySem.W PyProof.Rows
set_option maxRecDepth 100000
set_option maxHeartbeats 4000000
set_option Elab.async false
namespace Mine
open PySem.SeqAt PySem.MeetsSeq PySem.MeetsSeq2 PySem.MeetsSeq3
open AutoSeq1 (wpAny_loadPart')
theorem gt_loopAt (l b : Addr) (items items2 : Array Value) (n n2 : Nat) (dd dd2 : Option Addr) (sl sl2 : Array (Option Value)) (ss ts : List Str) (hs : StrsAre items.toList ss) (ht : StrsAre items2.toList ts) (k : Nat) :
    ∀ i : Nat, ss.length - i = k → i ≤ ss.length → i ≤ ts.length → Meets (Builtin.«list.__eq__.loop» ⟨[.ref l, .ref b, rawInt i, rawInt 4], []⟩)
      (fun A R s => s.heap.get? l = some { cls := .type "list", dict := dd, data := .seq items n, slots := sl } ∧ s.heap.get? b = some { cls := .type "list", dict := dd2, data := .seq items2 n2, slots := sl2 } ∧
        R (.ok (.ret (.bool (ltSS (ts.drop i) (ss.drop i))))) s) := by
  have z1 : items.size = ss.length := by rw [← hs.length, Array.length_toList]
  have z2 : items2.size = ts.length := by rw [← ht.length, Array.length_toList]
  induction k with
  | zero =>
    intro i hk h1 h2 prog w A R s h
    obtain ⟨hp, g, d, tk, os⟩ := s; obtain ⟨hl, hb, h⟩ := h
    wp_walk using wpAny_loadPart' hl, wpAny_loadPart' hb
    have hi1 : items[((i : Nat) : Int).toNat]? = none := by simp; omega
    rw [hi1]
    wp_walk using wpAny_loadPart' hl, wpAny_loadPart' hb
    show R (.ok (.ret (.bool (decide (items2.size < items.size))))) _
    have hd : ss.drop i = [] := by simp; omega
    rw [hd] at h
    have hj : ltSS (ts.drop i) [] = decide (items2.size < items.size) := by
      by_cases q : i < ts.length
      · rw [List.drop_eq_getElem_cons q]
        have : ¬ items2.size < items.size := by omega
        simp [ltSS, this]
      · have e : ts.drop i = [] := by simp; omega
        rw [e]
        have : ¬ items2.size < items.size := by omega
        simp [ltSS, this]
    rw [hj] at h
    exact h
  | succ k ih =>
    intro i hk h1 h2 prog w A R s h
    obtain ⟨hp, g, d, tk, os⟩ := s; obtain ⟨hl, hb, h⟩ := h
    have hlt : i < ss.length := by omega
    obtain ⟨t, ht1⟩ := hs.get i ss[i] (List.getElem?_eq_getElem hlt)
    have hi1 : items[((i : Nat) : Int).toNat]? = some (.str ss[i] t) := by simpa using ht1
    by_cases hlt2 : i < ts.length
    · obtain ⟨u, hu1⟩ := ht.get i ts[i] (List.getElem?_eq_getElem hlt2)
      have hi2 : items2[((i : Nat) : Int).toNat]? = some (.str ts[i] u) := by simpa using hu1
      rw [drop_cons_of (List.getElem?_eq_getElem hlt), drop_cons_of (List.getElem?_eq_getElem hlt2)] at h
      have hc : ((i : Int) + 1) = ((i + 1 : Nat) : Int) := by push_cast; rfl
      wp_walk using wpAny_loadPart' hl, wpAny_loadPart' hb
      rw [hi1, hi2]
      refine wpAny_bind (EqAt.str_str ss[i] t ts[i] u prog w _ _ ?_)
      cases hq : (ss[i] == ts[i]) with
      | true =>
        wp_walk
        rw [hc]
        exact ⟨plainId_quiet plain_eq_loop _, codeAny_builtin entry_eq_loop (by
          rw [Around.under_plainId plain_eq_loop _]
          refine ih (i + 1) (by omega) (by omega) (by omega) prog w A R _ ⟨hl, hb, ?_⟩
          (have hq2 : (ts[i] == ss[i]) = (ss[i] == ts[i]) := by rw [Bool.eq_iff_iff]; simp only [beq_iff_eq]; exact ⟨Eq.symm, Eq.symm⟩); rw [hq] at hq2; simpa [ltSS, hq2] using h)⟩
      | false =>
        wp_walk using wpAny_loadPart' hl, wpAny_loadPart' hb
        rw [hi1, hi2]
        dsimp only
        refine wpAny_bind ?_
        refine PySem.P.gt_str (t := t) (u := u) ?_
        wp_walk
        (have hq2 : (ts[i] == ss[i]) = (ss[i] == ts[i]) := by rw [Bool.eq_iff_iff]; simp only [beq_iff_eq]; exact ⟨Eq.symm, Eq.symm⟩); rw [hq] at hq2; simpa [ltSS, hq2] using h
    · have hi2 : items2[((i : Nat) : Int).toNat]? = none := by simp; omega
      wp_walk using wpAny_loadPart' hl, wpAny_loadPart' hb
      rw [hi1, hi2]
      wp_walk using wpAny_loadPart' hl, wpAny_loadPart' hb
      show R (.ok (.ret (.bool (decide (items2.size < items.size))))) _
      have e : ts.drop i = [] := by simp; omega
      rw [drop_cons_of (List.getElem?_eq_getElem hlt), e] at h
      have : items2.size < items.size := by omega
      simpa [ltSS, this] using h
theorem list_gtAt (l b : Addr) (items items2 : Array Value) (n n2 : Nat) (dd dd2 : Option Addr) (sl sl2 : Array (Option Value)) (ss ts : List Str) (hs : StrsAre items.toList ss) (ht : StrsAre items2.toList ts) :
    Meets (Builtin.«list.__gt__» ⟨[.ref l, .ref b], []⟩)
      (fun _ R s => s.heap.get? l = some { cls := .type "list", dict := dd, data := .seq items n, slots := sl } ∧ s.heap.get? b = some { cls := .type "list", dict := dd2, data := .seq items2 n2, slots := sl2 } ∧
        R (.ok (.ret (.bool (ltSS ts ss)))) s) := by
  intro prog w A R s h
  obtain ⟨hp, g, d, tk, os⟩ := s; obtain ⟨hl, hb, h⟩ := h
  have f3 := AutoSeq1.sub_list_list
  wp_walk using wpAny_loadPart' hl, wpAny_loadPart' hb
  exact ⟨plainId_quiet plain_eq_loop _, codeAny_builtin entry_eq_loop (by
    rw [Around.under_plainId plain_eq_loop _]
    exact gt_loopAt l b items items2 n n2 dd dd2 sl sl2 ss ts hs ht _ 0 rfl (Nat.zero_le _) (Nat.zero_le _) prog w A R _ ⟨hl, hb, by simpa using h⟩)⟩
section
variable {prog : Program} {w : World} {A : Around} {E : Value → Shared → Prop} {s : Shared}
theorem rc_gt {l b : Addr} {vs ws : List Value} {n n2 : Nat} {ss ts : List Str} {Q : Value → Shared → Prop} (hl : s.heap.get? l = some (listOf vs.toArray n)) (hb : s.heap.get? b = some (listOf ws.toArray n2)) (hs : StrsAre vs ss) (ht : StrsAre ws ts) (hu : A.units < cLine)
    (h : Q (.bool (ltSS ts ss)) s) : wpAny (model prog w) A (richCompare .Gt (.ref l) (.ref b)) Q E s :=
  richCompare_meets_room (op := .Gt) ⟨_, hl, rfl⟩ ⟨_, hb, rfl⟩ F.slot_list_gt F.entry_list_gt (F.args_list_gt_2 _ _) (list_gtAt l b vs.toArray ws.toArray n n2 none none #[] #[] ss ts (by simpa using hs) (by simpa using ht))
    ⟨hl, hb, by show _ ∧ _; exact ⟨(fun e => by cases e), h⟩⟩ hu
end
end Mine
end

section
open PySem PySem.W PyProof.Rows PySem.Spec
set_option maxRecDepth 100000
set_option maxHeartbeats 4000000
set_option Elab.async false
namespace Mine
def TurnEndE (h₀ : Heap) (L e I : Addr) (own : List (Addr × Obj)) (Jn : (Str → Option Value) → List (Addr × Obj) → Prop) (s₁ : Shared) (Q : Flow → Shared → Prop) (f : Flow) (s₂ : Shared) : Prop :=
  match f with
  | .ret v => Q (.ret v) s₂
  | .brk => Q .next s₂
  | _ => ∃ h' tk m' news', s₂ = { s₁ with heap := h', toks := tk } ∧ Fr h₀ L h' m' ∧ News h₀ L h' (own ++ news') ∧ (∀ p ∈ news', p.1 ≠ e ∧ p.1 ≠ I) ∧ Jn m' news'
theorem turn_nextE {h₀ : Heap} {L e I : Addr} {own : List (Addr × Obj)} {Jn : (Str → Option Value) → List (Addr × Obj) → Prop} {s₁ : Shared} {Q : Flow → Shared → Prop} {h' : Heap} {tk : Nat} {m' : Str → Option Value} {all : List (Addr × Obj)} (F : Fr h₀ L h' m') (N : News h₀ L h' all) (news' : List (Addr × Obj)) (sub : ∀ p ∈ own ++ news', p ∈ all) (off : ∀ p ∈ news', p.1 ≠ e ∧ p.1 ≠ I) (j : Jn m' news') :
    TurnEndE h₀ L e I own Jn s₁ Q .next { s₁ with heap := h', toks := tk } := ⟨h', tk, m', news', rfl, F, fun p hp => N p (sub p hp), off, j⟩
section
variable {prog : Program} {w : World} {A : Around} {E : Value → Shared → Prop} {s : Shared} {env : Env} {h₀ : Heap} {body : List Stmt} {Q : Flow → Shared → Prop} {xi xc : Str} {pi pc : Pos}
def LoopAtE (prog : Program) (w : World) (A : Around) (h₀ : Heap) (env : Env) (xi xc : Str) (pi pc : Pos) (body : List Stmt) (Q : Flow → Shared → Prop) (E : Value → Shared → Prop) (it : Value) (s : Shared) : Prop :=
  ∃ (e I l : Addr) (vs : List Value) (m₀ : Str → Option Value) (news : List (Addr × Obj)) (J : Nat → (Str → Option Value) → List (Addr × Obj) → Prop),
    it = .ref e ∧ A.handled = none ∧ e ≠ I ∧ l ≠ e ∧ l ≠ I ∧ env.locals ∉ [e, I, l] ∧ h₀.get? e = none ∧ h₀.get? I = none ∧ (∃ old, IsEnum s.heap e I 0 old) ∧ s.heap.IsListIter I l 0 ∧ s.heap.IsList l vs.toArray ∧
    Fr h₀ env.locals s.heap m₀ ∧ News h₀ env.locals s.heap news ∧ (∀ p ∈ news, p.1 ≠ e ∧ p.1 ≠ I) ∧ J 0 m₀ news ∧
    (∀ (i : Nat) v t m₁ news₁ h tk own, vs[i]? = some v → J i m₁ news₁ → (∀ p ∈ own, p.1 ∈ [e, I, l]) → (∀ p ∈ news₁, p.1 ≠ e ∧ p.1 ≠ I) → Fr h₀ env.locals h m₁ → News h₀ env.locals h (own ++ news₁) →
      wpAny (model prog w) A (assign (.Name xi pi) env (.int i t)) (fun _ s₂ => wpAny (model prog w) A (assign (.Name xc pc) env v) (fun _ s₃ => wpAny (model prog w) A (execs body env) (TurnEndE h₀ env.locals e I own (J (i + 1)) { s with heap := h, toks := tk } Q) E s₃) E s₂) E { s with heap := h, toks := tk }) ∧
    ∀ m₁ news₁ h tk, J vs.length m₁ news₁ → Fr h₀ env.locals h m₁ → News h₀ env.locals h news₁ → Q .next { s with heap := h, toks := tk }
theorem codeAny_walkE {it : Value} {kk : Nat} {pt : Pos} (hE : PassesOwn (model prog w) A env E) (hn : assignEach [.Name xi pi, .Name xc pc] env = [(false, assign (.Name xi pi) env), (false, assign (.Name xc pc) env)]) (h : LoopAtE prog w A h₀ env xi xc pi pc body Q E it s) :
    codeAny (model prog w) A (.forLoop (.Tuple [.Name xi pi, .Name xc pc] kk pt) it body [] env) (fun r s' => match r with | .ok f => Q f s' | .error e => cameBackBy (model prog w) A env E e s') s := by
  obtain ⟨e, I, l, vs, m₀, news, J, rfl, hh, heI, hle, hlI, hfp, he0, hI0, hen, hit, hls, F, N, hnI, hj, turn, done⟩ := h
  have hvz : vs.toArray.size = vs.length := List.size_toArray ..
  have W := WalksT.enumerate (prog := prog) (w := w) hh e I l heI hle hlI vs.toArray
  have hLw : env.locals ∉ [e, I] := fun h => hfp (by simp only [List.mem_cons, List.not_mem_nil, or_false] at h ⊢; rcases h with h | h <;> simp [h])
  have old : ∀ b o, h₀.get? b = some o → b ∉ [e, I] := fun b o q hb => by
    simp only [List.mem_cons, List.not_mem_nil, or_false] at hb
    rcases hb with rfl | rfl
    · rw [he0] at q; cases q
    · rw [hI0] at q; cases q
  refine codeAny_forLoop_any (R := fun r s' => match r with | .ok f => Q f s' | .error e => cameBackBy (model prog w) A env E e s')
    (fun k s' => ∃ h' tk m' news' i, s' = { s with heap := h', toks := tk } ∧ ((∃ old, IsEnum h' e I (i : Nat) old) ∧ h'.IsListIter I l i ∧ h'.IsList l vs.toArray) ∧ Fr h₀ env.locals h' m' ∧ News h₀ env.locals h' news' ∧ (∀ p ∈ news', p.1 ≠ e ∧ p.1 ≠ I) ∧ J i m' news' ∧ i ≤ vs.length ∧ k = vs.length + 1 - i) ?_ (vs.length + 1)
    ⟨s.heap, s.toks, m₀, news, 0, rfl, ⟨hen, hit, hls⟩, F, N, hnI, hj, Nat.zero_le _, rfl⟩
  rintro k s' ⟨h', tk, m', news', i, rfl, hst', F', N', hnw', hJ, hi, rfl⟩
  have next : ∀ {hA hB : Heap}, (∀ b o, b ∉ [e, I] → hA.get? b = some o → hB.get? b = some o) → Fr h₀ env.locals hA m' ∧ News h₀ env.locals hA news' → Fr h₀ env.locals hB m' ∧ News h₀ env.locals hB news' := fun {hA hB} hk₁ ⟨FF, NN⟩ =>
    ⟨⟨FF.ns.at' fun o q => hk₁ _ o hLw q, fun b o q => hk₁ b o (old b o q) (FF.keep b o q), FF.above⟩, fun p hp => ⟨hk₁ _ _ (fun q => by
      simp only [List.mem_cons, List.not_mem_nil, or_false] at q
      rcases q with q | q
      · exact (hnw' p hp).1 q
      · exact (hnw' p hp).2 q) (NN p hp).1, (NN p hp).2⟩⟩
  by_cases hlt : i < vs.length
  · refine W.item i _ _ _ (by rw [hvz]; exact hlt) hst' fun T vals h1 tk1 hP hTge hT hM hk1 => ?_
    obtain ⟨t, v, hv, rfl⟩ := hP
    have hv' : vs[i]? = some v := by rw [List.getElem?_toArray] at hv; exact hv
    have s1 := next hk1 ⟨F', N'⟩
    refine W.go _ _ _ i T _ _ _ hM fun h2 st2 hk2 => ?_
    have hTw := W.apart i T h1 hM
    have hT2 : h2.IsTuple T #[.int i t, v] := by
      obtain ⟨o, q, r⟩ := hT
      exact ⟨o, hk2 _ _ hTw q, r⟩
    have s2 := next hk2 s1
    refine wpAny_assign_Tuple (s := { s with heap := h2, toks := tk1 }) hh hT2 (by rw [hn]; rfl) (by rw [hn]; rfl) fun h3 he3 => ?_
    have F3 : Fr h₀ env.locals h3 m' := fr_extNew s2.1 he3
    have N3 : News h₀ env.locals h3 news' := news_extNew s2.2 he3
    have st3 := W.frame _ _ h3 st2 fun b hb o q => he3 b o (Nat.ne_of_lt (Heap.lt_size q)) q
    have Nown : News h₀ env.locals h3 (ownOf h₀ [e, I, l] h3) := news_ownOf hfp
    rw [hn]
    show wpAny _ A (assignInOrder [assign (.Name xi pi) env, assign (.Name xc pc) env] [.int i t, v]) _ _ _
    have fin : ∀ s₃, (∃ h' tk' m' news', s₃ = { s with heap := h', toks := tk' } ∧ Fr h₀ env.locals h' m' ∧ News h₀ env.locals h' (ownOf h₀ [e, I, l] h3 ++ news') ∧ (∀ p ∈ news', p.1 ≠ e ∧ p.1 ≠ I) ∧ J (i + 1) m' news') →
        ∃ mm, mm < vs.length + 1 - i ∧ ∃ h' tk m' news' i, s₃ = { s with heap := h', toks := tk } ∧ ((∃ old, IsEnum h' e I (i : Nat) old) ∧ h'.IsListIter I l i ∧ h'.IsList l vs.toArray) ∧ Fr h₀ env.locals h' m' ∧ News h₀ env.locals h' news' ∧ (∀ p ∈ news', p.1 ≠ e ∧ p.1 ≠ I) ∧ J i m' news' ∧ i ≤ vs.length ∧ mm = vs.length + 1 - i := by
      rintro s₃ ⟨h4, tk4, m4, news4, rfl, F4, N4, ha4, hJ4⟩
      refine ⟨vs.length + 1 - (i + 1), by first | grind | omega, h4, tk4, m4, news4, i + 1, rfl, ?_, F4, N4.right, ha4, hJ4, hlt, rfl⟩
      refine W.frame _ _ _ st3 fun b hb o q => ?_
      cases hn0 : h₀.get? b with
      | some o₀ =>
        have : o₀ = o := by have := F3.keep b o₀ hn0; rw [q] at this; exact (Option.some.inj this).symm
        exact this ▸ F4.keep b o₀ hn0
      | none => exact (N4 _ (List.mem_append_left _ (mem_ownOf hb hn0 q))).1
    refine wpAny_bind (wpAny_holding ?_)
    refine wpAny_passesOwn hE (wpAny_mono (turn i v t m' news' h3 tk1 (ownOf h₀ [e, I, l] h3) hv' hJ ownOf_sub hnw' F3 (Nown.append N3)) (fun _ s4 h4 => ?_) fun _ _ q => q)
    refine wpAny_bind (wpAny_holding ?_)
    refine wpAny_passesOwn hE (wpAny_mono h4 (fun _ s5 h5 => ?_) fun _ _ q => q)
    refine wpAny_pure ?_
    refine wpAny_passesOwn hE (wpAny_mono h5 (fun f s6 h6 => ?_) fun _ _ q => q)
    cases f with
    | ret v => exact h6
    | brk => exact h6
    | cont => exact fin _ h6
    | next => exact fin _ h6
  · have hin : i = vs.length := by exact Nat.le_antisymm (by assumption) (Nat.not_lt.mp (by assumption))
    subst hin
    refine W.done _ _ _ (by rw [hvz]; exact hst') fun h1 tk1 hk1 => wpAny_execs_nil ?_
    have s1 := next hk1 ⟨F', N'⟩
    exact done m' news' h1 tk1 hJ s1.1 s1.2
theorem For_E {iter : PySem.Expr} {pos : Pos} {kk : Nat} {pt : Pos} {m : Str → Option Value} (_F : Fr h₀ env.locals s.heap m)
    (h : wpAny (model prog w) A (eval iter env) (fun xv s₁ => wpAny (model prog w) A (pyIter xv) (fun it s₂ => LoopAtE prog w A h₀ env xi xc pi pc body Q E it s₂) E s₁) E s)
    (hn : assignEach [.Name xi pi, .Name xc pc] env = [(false, assign (.Name xi pi) env), (false, assign (.Name xc pc) env)] := by rfl)
    (hs : ∀ x, foldedSetIterable iter env x = pure x := by intro _; rfl)
    (hE : PassesOwn (model prog w) A env E := by passes_own) : wpAny (model prog w) A (exec (.For (.Tuple [.Name xi pi, .Name xc pc] kk pt) iter body [] pos) env) Q E s :=
  wpAny_For (wpAny_mono h (fun xv s₁ h₁ => wpAny_mono h₁ (fun it s₂ h₂ => codeAny_walkE hE hn h₂) fun _ _ e => e) fun _ _ e => e) hs
theorem enum_E {l : Addr} {vs : List Value} {c : Nat} {m₀ : Str → Option Value} {news : List (Addr × Obj)} (J : Nat → (Str → Option Value) → List (Addr × Obj) → Prop)
    (hh : A.handled = none) (F : Fr h₀ env.locals s.heap m₀) (N : News h₀ env.locals s.heap news) (hl : (l, listOf vs.toArray c) ∈ news) (hj : J 0 m₀ news)
    (turn : ∀ (i : Nat) v t m₁ news₁ h tk own e I, vs[i]? = some v → J i m₁ news₁ → (∀ p ∈ news, p.1 < I ∧ p.1 < e) → (∀ p ∈ own, p.1 ∈ [e, I, l]) → (∀ p ∈ news₁, p.1 ≠ e ∧ p.1 ≠ I) → Fr h₀ env.locals h m₁ → News h₀ env.locals h (own ++ news₁) →
      wpAny (model prog w) A (assign (.Name xi pi) env (.int i t)) (fun _ s₂ => wpAny (model prog w) A (assign (.Name xc pc) env v) (fun _ s₃ => wpAny (model prog w) A (execs body env) (TurnEndE h₀ env.locals e I own (J (i + 1)) { s with heap := h, toks := tk } Q) E s₃) E s₂) E { s with heap := h, toks := tk })
    (done : ∀ m₁ news₁ h tk, J vs.length m₁ news₁ → Fr h₀ env.locals h m₁ → News h₀ env.locals h news₁ → Q .next { s with heap := h, toks := tk }) :
    wpAny (model prog w) A (call (.type "enumerate") [.ref l]) (fun xv s₁ => wpAny (model prog w) A (pyIter xv) (fun it s₂ => LoopAtE prog w A h₀ env xi xc pi pc body Q E it s₂) E s₁) E s := by
  have hls : s.heap.IsList l vs.toArray := PySem.IsL.isList (N _ hl).1
  have hlt : l < s.heap.objs.size := Heap.lt_size (N _ hl).1
  refine call_enumerate_list hls fun h' hen hit hsz hk => ?_
  refine wpAny_pyIter_enum hen ?_
  have F1 : Fr h₀ env.locals h' m₀ := F.keeps hk
  have N1 : News h₀ env.locals h' news := N.grown hk
  have e0 : h₀.get? (s.heap.objs.size + 1) = none := by
    cases q : h₀.get? (s.heap.objs.size + 1) with
    | none => rfl
    | some o => exact absurd (Heap.lt_size (F.keep _ _ q)) (Nat.not_lt.mpr (Nat.le_succ _))
  have hLlt := F.ns.lt
  refine ⟨s.heap.objs.size + 1, s.heap.objs.size, l, vs, m₀, news, J, rfl, hh, Nat.succ_ne_self _, Nat.ne_of_lt (Nat.lt_succ_of_lt hlt), Nat.ne_of_lt hlt, ?_, e0, fresh_none F, ⟨_, hen⟩, hit, hls.at fun o q => hk _ o q, F1, N1, fun p hp => ?_, hj, ?_, ?_⟩
  · intro hm
    simp only [List.mem_cons, List.not_mem_nil, or_false] at hm
    rcases hm with q | q | q
    · exact absurd hLlt (by rw [q]; exact Nat.not_lt.mpr (Nat.le_succ _))
    · exact absurd hLlt (by rw [q]; exact Nat.lt_irrefl _)
    · exact (N _ hl).2.1 q.symm
  · have := Heap.lt_size (N p hp).1
    exact ⟨Nat.ne_of_lt (Nat.lt_succ_of_lt this), Nat.ne_of_lt this⟩
  · intro i v t m₁ news₁ h tk own hv hJ hown hoff F₁ N₁
    exact turn i v t m₁ news₁ h tk own _ _ hv hJ (fun p hp => by have := Heap.lt_size (N p hp).1; exact ⟨this, Nat.lt_succ_of_lt this⟩) hown hoff F₁ N₁
  · intro m₁ news₁ h tk hJ F₁ N₁
    exact done m₁ news₁ h tk hJ F₁ N₁
end
end Mine
end

section
open PySem PySem.W PyProof.Rows
set_option maxRecDepth 100000
set_option maxHeartbeats 4000000
set_option Elab.async false
namespace Mine
def keepC (c : Str) : Bool := !(c.length == 0) && !(c == Str.ofString ".")
theorem filt_yes {l : List Str} {i : Nat} {c : Str} {t : Tok} {ys : List Value} (h : l[i]? = some c) (h1 : ((c.length : Nat) : Int) ≠ 0) (h2 : (c != Str.ofString ".") = true) (hys : StrsAre ys ((l.take i).filter keepC)) : StrsAre (ys ++ [.str c t]) ((l.take (i + 1)).filter keepC) := by
  have hk : keepC c = true := by
    unfold keepC
    have : (c.length == 0) = false := by
      rw [beq_eq_false_iff_ne]; omega
    rw [this]
    simpa [bne] using h2
  rw [take_succ_filter keepC l i c h, hk]
  exact hys.append' (.cons _ _ .nil)
theorem filt_no1 {l : List Str} {i : Nat} {c : Str} {ys : List Value} (h : l[i]? = some c) (h2 : (c != Str.ofString ".") = false) (hys : StrsAre ys ((l.take i).filter keepC)) : StrsAre ys ((l.take (i + 1)).filter keepC) := by
  have hk : keepC c = false := by
    unfold keepC
    have : (c == Str.ofString ".") = true := by simpa [bne] using h2
    rw [this]; simp
  rw [take_succ_filter keepC l i c h, hk]
  simpa using hys
theorem filt_no2 {l : List Str} {i : Nat} {c : Str} {ys : List Value} (h : l[i]? = some c) (h2 : ((c.length : Nat) : Int) = 0) (hys : StrsAre ys ((l.take i).filter keepC)) : StrsAre ys ((l.take (i + 1)).filter keepC) := by
  have hk : keepC c = false := by
    unfold keepC
    have : (c.length == 0) = true := by
      rw [beq_iff_eq]; omega
    rw [this]; simp
  rw [take_succ_filter keepC l i c h, hk]
  simpa using hys
noncomputable def lcp : List Nat → List Nat → List Nat
  | a :: p, b :: q => if a = b then a :: lcp p q else []
  | _, _ => []
theorem split_path : ∀ ds ∈ [] :: allP, (Txt.split (pathS ds) (Str.ofString "/")).filter keepC = ds.map nm ∧ (Txt.split (pathS ds) (Str.ofString "/")).length < 100 ∧ Txt.startswith (pathS ds) (Str.ofString "/") = true := by decide +kernel
theorem loop_facts : ∀ a ∈ [] :: allP, ∀ b ∈ [] :: allP, ltSS (b.map nm) (a.map nm) = false → ∀ i ∈ [0, 1, 2, 3], i < a.length → a.take i = b.take i →
    i < b.length ∧ ((nm (a.getD i 0) != nm (b.getD i 0)) = true → lcp a b = a.take i) ∧ ((nm (a.getD i 0) != nm (b.getD i 0)) = false → a.take (i + 1) = b.take (i + 1)) := by decide +kernel
theorem loop_end : ∀ a ∈ [] :: allP, ∀ b ∈ [] :: allP, a.take a.length = b.take a.length → lcp a b = a := by decide +kernel
theorem lcp_comm_all : ∀ a ∈ [] :: allP, ∀ b ∈ [] :: allP, lcp a b = lcp b a ∧ lcp a b ∈ [] :: allP ∧ (ltSS (a.map nm) (b.map nm) = false → ltSS (b.map nm) (a.map nm) = false → a = b) ∧ (ltSS (a.map nm) (b.map nm) = true → ltSS (b.map nm) (a.map nm) = false) := by decide +kernel
theorem join_pathS : ∀ ds ∈ [] :: allP, Str.ofString "/" ++ Txt.join (Str.ofString "/") (ds.map nm) = pathS ds ∧ ds.length ≤ 3 := by decide +kernel
theorem pick {p q : List Nat} (hp : p ∈ [] :: allP) (hq : q ∈ [] :: allP) {Y1 Y2 : Addr} {ys1 ys2 : List Value} (h1 : StrsAre ys1 (p.map nm)) (h2 : StrsAre ys2 (q.map nm)) :
    ∃ (A1 A2 : Addr) (ya yb : List Value) (a b : List Nat), (if ltSS (q.map nm) (p.map nm) = true then Value.ref Y2 else .ref Y1) = .ref A1 ∧ (if ltSS (p.map nm) (q.map nm) = true then Value.ref Y2 else .ref Y1) = .ref A2 ∧
      ((A1 = Y1 ∧ ya = ys1) ∨ (A1 = Y2 ∧ ya = ys2)) ∧ ((A2 = Y1 ∧ yb = ys1) ∨ (A2 = Y2 ∧ yb = ys2)) ∧ StrsAre ya (a.map nm) ∧ StrsAre yb (b.map nm) ∧ a ∈ [] :: allP ∧ b ∈ [] :: allP ∧ lcp a b = lcp p q ∧ ltSS (b.map nm) (a.map nm) = false := by
  have f := lcp_comm_all p hp q hq
  cases hqp : ltSS (q.map nm) (p.map nm) with
  | true =>
    have hpq : ltSS (p.map nm) (q.map nm) = false := (lcp_comm_all q hq p hp).2.2.2 hqp
    exact ⟨Y2, Y1, ys2, ys1, q, p, by simp, by simp [hpq], .inr ⟨rfl, rfl⟩, .inl ⟨rfl, rfl⟩, h2, h1, hq, hp, f.1.symm, hpq⟩
  | false =>
    cases hpq : ltSS (p.map nm) (q.map nm) with
    | true => exact ⟨Y1, Y2, ys1, ys2, p, q, by simp, by simp, .inl ⟨rfl, rfl⟩, .inr ⟨rfl, rfl⟩, h1, h2, hp, hq, rfl, hqp⟩
    | false =>
      have e : p = q := f.2.2.1 hpq hqp
      subst e
      exact ⟨Y1, Y1, ys1, ys1, p, p, by simp, by simp, .inl ⟨rfl, rfl⟩, .inl ⟨rfl, rfl⟩, h1, h1, hp, hp, rfl, hqp⟩
theorem join_sum : ∀ ds ∈ [] :: allP, ((ds.map nm).map (·.length)).sum + (ds.map nm).length * (Str.ofString "/").length ≤ 100 := by decide +kernel
theorem join_facts : ∀ ds ∈ [] :: allP, (ds = [] ∧ ((Txt.join (Str.ofString "/") (ds.map nm)).length == 0) = true ∧ pathS ds = Str.ofString "/") ∨ (((Txt.join (Str.ofString "/") (ds.map nm)).length == 0) = false ∧ Str.ofString "/" ++ Txt.join (Str.ofString "/") (ds.map nm) = pathS ds ∧ (pathS ds).length ≤ 100) := by decide +kernel
theorem add_path {prog : Program} {w : World} {A : Around} {E : Value → Shared → Prop} {s : Shared} {Q : Value → Shared → Prop} {ds : List Nat} {t u : Tok} (hds : ds ∈ [] :: allP) (h : ∀ t' k, Q (.str (pathS ds) t') { s with toks := k }) :
    wpAny (model prog w) A (binaryOp .Add (.str (Str.ofString "/") t) (.str (Txt.join (Str.ofString "/") (ds.map nm)) u)) Q E s := by
  refine PySem.P.add_str ?_
  rw [if_neg (by decide)]
  rcases join_facts ds hds with ⟨rfl, h1, h2⟩ | ⟨h1, h2, h3⟩
  · rw [if_pos h1]
    have := h t s.toks
    rw [h2] at this
    exact this
  · rw [if_neg (by rw [h1]; exact Bool.false_ne_true), h2]
    exact ⟨by rw [sizeLine_eq]; omega, h _ _⟩
end Mine
end

section
open PySem PySem.W PyProof.Rows PySem.SeqAt
set_option maxRecDepth 100000
set_option maxHeartbeats 4000000
set_option Elab.async false
namespace Mine
open Classical in
theorem tree_kappa {h₀ h : Heap} {L : Addr} {news own : List (Addr × Obj)} {ts : List Value} {pss : List (List Nat)} (N : News h₀ L h news) (hs : ∀ p ∈ own, p ∈ news) (OK : TreeOk own ts pss) :
    ∃ κ : Value → Nat, (∀ (i : Nat) v ds, ts[i]? = some v → pss[i]? = some ds → κ v = code ds) ∧ ∀ v ∈ ts, Good own κ v := by
  let κ : Value → Nat := fun v => if h : ∃ ds, ∃ i : Nat, ts[i]? = some v ∧ pss[i]? = some ds then code (Classical.choose h) else 0
  have key : ∀ (i : Nat) v ds, ts[i]? = some v → pss[i]? = some ds → κ v = code ds := by
    intro i v ds h1 h2
    have hx : ∃ ds, ∃ i : Nat, ts[i]? = some v ∧ pss[i]? = some ds := ⟨ds, i, h1, h2⟩
    show (if h : ∃ ds, ∃ i : Nat, ts[i]? = some v ∧ pss[i]? = some ds then code (Classical.choose h) else 0) = _
    rw [dif_pos hx]
    obtain ⟨j, h3, h4⟩ := Classical.choose_spec hx
    have e := path_same N hs (OK.at' i v ds h1 h2) (OK.at' j v _ h3 h4)
    rw [nm_inj_all ds (OK.allp ds (List.mem_of_getElem? h2)) _ (OK.allp _ (List.mem_of_getElem? h4)) e]
  refine ⟨κ, key, fun v hv => ?_⟩
  obtain ⟨i, hi⟩ := List.mem_iff_getElem?.mp hv
  obtain ⟨ds, hds⟩ : ∃ ds, pss[i]? = some ds := ⟨_, List.getElem?_eq_getElem (by rw [← OK.len]; exact (List.getElem?_eq_some_iff.mp hi).1)⟩
  obtain ⟨a, xs, n, rfl, hm, hx⟩ := OK.at' i v ds hi hds
  exact ⟨a, xs, n, ds, rfl, hm, hx, OK.allp ds (List.mem_of_getElem? hds), key i _ ds hi hds⟩
theorem tree_inj {own : List (Addr × Obj)} {ts : List Value} {pss : List (List Nat)} {κ : Value → Nat} (OK : TreeOk own ts pss) (hk : ∀ (i : Nat) v ds, ts[i]? = some v → pss[i]? = some ds → κ v = code ds) :
    ∀ i j, i < ts.length → j < ts.length → κ (ts.getD i .none) = κ (ts.getD j .none) → i = j := by
  intro i j hi hj e
  have hi' : i < pss.length := by rw [← OK.len]; exact hi
  have hj' : j < pss.length := by rw [← OK.len]; exact hj
  have e1 : ts.getD i .none = ts[i] := by simp [List.getD, List.getElem?_eq_getElem hi]
  have e2 : ts.getD j .none = ts[j] := by simp [List.getD, List.getElem?_eq_getElem hj]
  rw [e1, e2, hk i ts[i] pss[i] (List.getElem?_eq_getElem hi) (List.getElem?_eq_getElem hi'), hk j ts[j] pss[j] (List.getElem?_eq_getElem hj) (List.getElem?_eq_getElem hj')] at e
  have := code_inj _ (OK.allp _ (List.getElem_mem hi')) _ (OK.allp _ (List.getElem_mem hj')) e
  have nd := List.pairwise_iff_getElem.mp (show pss.Pairwise (· ≠ ·) from OK.nodup)
  rcases Nat.lt_trichotomy i j with h | h | h
  · exact absurd this (nd i j hi' hj' h)
  · exact h
  · exact absurd this.symm (nd j i hj' hi' h)
/-- in order, strictly -/
def Up (κ : Value → Nat) (l : List Value) : Prop := l.Pairwise fun a b => κ a < κ b
theorem up_unique {κ : Value → Nat} {l r : List Value} (h1 : Up κ l) (h2 : Up κ r) (p : l.Perm r) : l = r :=
  List.Perm.eq_of_pairwise (le := fun a b => κ a < κ b) (fun a b _ _ h3 h4 => absurd h3 (Nat.lt_asymm h4)) h1 h2 p
section
variable {prog : Program} {w : World} {A : Around} {E : Value → Shared → Prop} {s : Shared} {h₀ : Heap} {L : Addr} {m : Str → Option Value} {news own : List (Addr × Obj)}
theorem sorted_tree {T : Addr} {ts : List Value} {c : Nat} {κ : Value → Nat} {Q : Value → Shared → Prop} (F : Fr h₀ L s.heap m) (N : News h₀ L s.heap news) (hl : (T, listOf ts.toArray c) ∈ news) (h2 : 2 ≤ ts.length) (h64 : ts.length < 64)
    (hs : ∀ p ∈ own, p ∈ news) (good : ∀ v ∈ ts, Good own κ v) (inj : ∀ i j, i < ts.length → j < ts.length → κ (ts.getD i .none) = κ (ts.getD j .none) → i = j) (hu : A.units + 2 < cLine)
    (hQ : ∀ D h' out c', out.Perm ts → Up κ out → Fr h₀ L h' m → News h₀ L h' ((D, listOf (List.toArray out) c') :: news) → (∀ q ∈ news, q.1 < D) → Q (.ref D) { s with heap := h' }) :
    wpAny (model prog w) A (call (.builtin "sorted") [.ref T]) Q E s := by
  refine kas_sorted (T := .type "list") F N (PySem.IsL.isList (N _ hl).1) h2 h64 (fun h FF NN v hv => ?_) (by decide) fun D e1 h' F' N' ltD => ?_
  · obtain ⟨a, xs, n, ds, rfl, hm, _⟩ := good v hv
    intro A' Q' E' s' hk hq
    exact wpAny_typeOf ⟨_, hk _ _ (NN _ (hs _ hm)).1, rfl⟩ hq
  · have gd : ∀ i, i < ts.length → Good own κ (ts.getD i .none) := fun i hi => good _ (by
      have : ts.getD i .none = ts[i] := by simp [List.getD, List.getElem?_eq_getElem hi]
      rw [this]; exact List.getElem_mem hi)
    refine sort_ok (K := fun i => κ (ts.getD i .none)) ⟨fun i j C hi hj hC => ?_, fun i j hi hj e => inj i j hi hj e⟩ (by exact Nat.le_of_lt (by assumption)) fun p hp hI => ?_
    · unfold kas_ask
      rw [keyLt'_oneType]
      exact good_one N' (fun p hp => .tail _ (hs p hp)) (gd i hi) (gd j hj) hu hC
    · refine KasFin.intro F' N' (UpdF.head fun q hq => Nat.ne_of_lt (ltD q hq)) fun h2 c2 F2 N2 => ?_
      refine hQ D h2 _ c2 ?_ ?_ F2 N2 ltD
      · have e : ts = (List.range ts.length).map fun i => ts.getD i .none := by
          apply List.ext_getElem?
          intro i
          by_cases hi : i < ts.length
          · rw [List.getElem?_map, List.getElem?_range hi]; simp [List.getD, List.getElem?_eq_getElem hi]
          · rw [List.getElem?_eq_none (by omega), List.getElem?_eq_none (by simp; omega)]
        have hp' : p.toList.Perm (List.range ts.length) := hp
        have := hp'.map fun i => ts.getD i .none
        rw [← e] at this
        exact this
      · unfold Up
        rw [List.pairwise_iff_getElem]
        intro i j hi hj hij
        have hz : p.toList.length = ts.length := by have := (show p.toList.Perm (List.range ts.length) from hp).length_eq; simpa using this
        have := hI i j hij (by simpa [hz] using hj)
        simp only [kk] at this
        simp only [List.getElem_map]
        have g : ∀ k (hk : k < p.toList.length), p.getD k 0 = p.toList[k] := fun k hk => by
          have hk' : k < p.size := by simpa using hk
          simp [Array.getD, hk']
        rw [g i (by simpa using hi), g j (by simpa using hj)] at this
        exact this
theorem ne_same {a b : Addr} {vs : List Value} {n k : Nat} {Q : Value → Shared → Prop} (ha : s.heap.get? a = some (listOf vs.toArray n)) (hb : s.heap.get? b = some (listOf vs.toArray k)) (hu : A.units < cLine) (h : Q (.bool false) s) :
    wpAny (model prog w) A (compareOp .NotEq (.ref a) (.ref b)) Q E s := by
  refine cmp_ofNotEq ?_
  have := RcNeAt.lists (A := A) (e := fun _ => true) (PySem.IsL.isList ha) (PySem.IsL.isList hb) rfl hu fun j h1 h2 => EqAt.same _
  refine this prog w E Q ?_
  have e : (!(List.range vs.toArray.size).all fun _ => true) = false := by simp
  rw [e]; exact h
end
theorem kap_nodup {ts : List Value} {κ : Value → Nat} (inj : ∀ i j, i < ts.length → j < ts.length → κ (ts.getD i .none) = κ (ts.getD j .none) → i = j) : (ts.map κ).Nodup := by
  show (ts.map κ).Pairwise (· ≠ ·)
  rw [List.pairwise_iff_getElem]
  intro i j hi hj hij e
  rw [List.length_map] at hi hj
  simp only [List.getElem_map] at e
  have e1 : ts.getD i .none = ts[i] := by simp [List.getD, List.getElem?_eq_getElem hi]
  have e2 : ts.getD j .none = ts[j] := by simp [List.getD, List.getElem?_eq_getElem hj]
  have := inj i j hi hj (by rw [e1, e2]; exact e)
  omega
theorem pop_step {ts ys hv vs' : List Value} {r : Value} {κ : Value → Nat} (hp : (ys ++ hv).Perm ts) (hnd : (ts.map κ).Nodup) (hU : Up κ ys) (hlt : ∀ y ∈ ys, ∀ u ∈ hv, κ y < κ u) (hr : (r :: vs').Perm hv) (hle : ∀ v ∈ hv, κ r ≤ κ v) :
    ((ys ++ [r]) ++ vs').Perm ts ∧ Up κ (ys ++ [r]) ∧ ∀ y ∈ ys ++ [r], ∀ u ∈ vs', κ y < κ u := by
  have h1 : ((ys ++ [r]) ++ vs').Perm ts := by
    rw [List.append_assoc]
    exact (List.Perm.append_left ys hr).trans hp
  have hrm : r ∈ hv := hr.mem_iff.mp (.head _)
  have hnd2 : (((ys ++ [r]) ++ vs').map κ).Nodup := (h1.map κ).nodup_iff.mpr hnd
  refine ⟨h1, ?_, ?_⟩
  · unfold Up
    rw [List.pairwise_append]
    exact ⟨hU, List.pairwise_singleton _ _, fun a ha b hb => by rw [List.mem_singleton.mp hb]; exact hlt a ha r hrm⟩
  · intro y hy u hu
    have hum : u ∈ hv := hr.mem_iff.mp (.tail _ hu)
    rcases List.mem_append.mp hy with hy | hy
    · exact hlt y hy u hum
    · rw [List.mem_singleton.mp hy]
      refine Nat.lt_of_le_of_ne (hle u hum) fun e => ?_
      rw [List.append_assoc, List.map_append, List.nodup_append] at hnd2
      have h3 : ((r :: vs').map κ).Nodup := hnd2.2.1
      rw [List.map_cons, List.nodup_cons] at h3
      exact h3.1 (by rw [e]; exact List.mem_map_of_mem hu)
theorem tree_two {own : List (Addr × Obj)} {ts : List Value} {pss : List (List Nat)} (OK : TreeOk own ts pss) (h : pathOf 14 ∈ pss) : 2 ≤ ts.length := by
  have e : pathOf 14 = [2, 2, 1] := by decide
  rw [e] at h
  have h2 : [2, 2] ∈ pss := by
    rcases OK.closed _ h with q | q
    · simp at q
    · exact q
  rw [OK.len]
  exact List.Nodup.length_le_of_subset (l₁ := [[2, 2, 1], [2, 2]]) (by simp) (by
    intro x hx
    simp only [List.mem_cons, List.not_mem_nil, or_false] at hx
    rcases hx with rfl | rfl
    · exact h
    · exact h2)
end Mine
end

section
open PySem PySem.W PyProof.Rows
set_option maxRecDepth 100000
set_option maxHeartbeats 4000000
set_option Elab.async false
namespace Mine
def prevOf (qs : List (List Nat)) (i : Nat) : List Nat := if i = 0 then [] else qs.getD (i - 1) []
theorem between : ∀ p ∈ [] :: allP, ∀ ds ∈ allP, code ds.dropLast ≤ code p → code p < code ds →
    p.take (ds.length - 1) = ds.dropLast ∧ ds.length - 1 ≤ p.length ∧ (lcp p ds).length ≤ ds.length - 1 ∧ lcp ds ds.dropLast = ds.dropLast := by decide +kernel
theorem code_drop : ∀ ds ∈ allP, code ds.dropLast < code ds ∧ 0 < code ds := by decide +kernel
theorem code_nil : code [] = 0 := by decide
theorem main_step {qs : List (List Nat)} (hU : qs.Pairwise fun a b => code a < code b) (hA : ∀ ds ∈ qs, ds ∈ allP) (hC : ∀ ds ∈ qs, ds.dropLast = [] ∨ ds.dropLast ∈ qs) {i : Nat} {ds : List Nat} (h : qs[i]? = some ds) :
    prevOf qs i ∈ [] :: allP ∧ code ds.dropLast ≤ code (prevOf qs i) ∧ code (prevOf qs i) < code ds := by
  obtain ⟨hi, e⟩ := List.getElem?_eq_some_iff.mp h
  have hm : ds ∈ qs := List.mem_of_getElem? h
  have hda := hA ds hm
  have hpw := List.pairwise_iff_getElem.mp hU
  unfold prevOf
  by_cases h0 : i = 0
  · subst h0
    rw [if_pos rfl]
    refine ⟨.head _, ?_, by rw [code_nil]; exact (code_drop ds hda).2⟩
    rcases hC ds hm with q | q
    · rw [q]; exact Nat.le_refl _
    · obtain ⟨j, hj⟩ := List.mem_iff_getElem?.mp q
      obtain ⟨hj', ej⟩ := List.getElem?_eq_some_iff.mp hj
      rcases Nat.eq_zero_or_pos j with rfl | hj0
      · rw [e] at ej
        have := (code_drop ds hda).1
        rw [← ej] at this
        omega
      · have := hpw 0 j hi hj' hj0
        rw [e, ej] at this
        have := (code_drop ds hda).1
        omega
  · rw [if_neg h0]
    have hi1 : i - 1 < qs.length := by exact Nat.lt_of_le_of_lt (Nat.sub_le _ _) (by assumption)
    have eg : qs.getD (i - 1) [] = qs[i - 1] := by simp [List.getD, List.getElem?_eq_getElem hi1]
    rw [eg]
    have hlt := hpw (i - 1) i hi1 hi (by omega)
    rw [e] at hlt
    refine ⟨.tail _ (hA _ (List.getElem_mem hi1)), ?_, hlt⟩
    rcases hC ds hm with q | q
    · rw [q, code_nil]; exact Nat.zero_le _
    · obtain ⟨j, hj⟩ := List.mem_iff_getElem?.mp q
      obtain ⟨hj', ej⟩ := List.getElem?_eq_some_iff.mp hj
      rcases Nat.lt_trichotomy j (i - 1) with g | g | g
      · have := hpw j (i - 1) hj' hi1 g
        rw [ej] at this
        omega
      · subst g; rw [ej]; exact Nat.le_refl _
      · exfalso
        have hd := (code_drop ds hda).1
        rcases Nat.eq_or_lt_of_le (show i ≤ j by omega) with g2 | g2
        · subst g2; rw [e] at ej; rw [← ej] at hd; omega
        · have := hpw i j hi hj' g2
          rw [e, ej] at this
          omega
theorem prev_next {qs : List (List Nat)} {i : Nat} {ds : List Nat} (h : qs[i]? = some ds) : prevOf qs (i + 1) = ds := by
  unfold prevOf
  rw [if_neg (by omega)]
  have : i + 1 - 1 = i := by rfl
  rw [this]
  simp [List.getD, h]
/-- the paths of the popped list, in its order -/
theorem popped_paths {own : List (Addr × Obj)} {ts out : List Value} {pss : List (List Nat)} {κ : Value → Nat} (OK : TreeOk own ts pss) (hk : ∀ (i : Nat) v ds, ts[i]? = some v → pss[i]? = some ds → κ v = code ds) (hp : out.Perm ts) (hU : Up κ out) :
    ∃ qs : List (List Nat), qs.length = out.length ∧ (∀ (i : Nat) v ds, out[i]? = some v → qs[i]? = some ds → PathAt own v ds) ∧ (qs.Pairwise fun a b => code a < code b) ∧ (∀ ds, ds ∈ qs ↔ ds ∈ pss) := by
  classical
  have hex : ∀ v, v ∈ ts → ∃ ds, ∃ i : Nat, ts[i]? = some v ∧ pss[i]? = some ds := fun v hv => by
    obtain ⟨i, hi⟩ := List.mem_iff_getElem?.mp hv
    exact ⟨_, i, hi, List.getElem?_eq_getElem (by rw [← OK.len]; exact (List.getElem?_eq_some_iff.mp hi).1)⟩
  let f : Value → List Nat := fun v => if h : ∃ ds, ∃ i : Nat, ts[i]? = some v ∧ pss[i]? = some ds then Classical.choose h else []
  have hf : ∀ v, v ∈ ts → ∃ i : Nat, ts[i]? = some v ∧ pss[i]? = some (f v) := fun v hv => by
    have h := hex v hv
    show ∃ i : Nat, ts[i]? = some v ∧ pss[i]? = some (if h : ∃ ds, ∃ i : Nat, ts[i]? = some v ∧ pss[i]? = some ds then Classical.choose h else [])
    rw [dif_pos h]
    exact Classical.choose_spec h
  have hκf : ∀ v, v ∈ ts → κ v = code (f v) := fun v hv => by
    obtain ⟨i, h1, h2⟩ := hf v hv
    exact hk i v _ h1 h2
  have hmem : ∀ v, v ∈ out → v ∈ ts := fun v hv => hp.mem_iff.mp hv
  refine ⟨out.map f, by simp, fun i v ds h1 h2 => ?_, ?_, fun ds => ⟨fun h => ?_, fun h => ?_⟩⟩
  · rw [List.getElem?_map, h1] at h2
    simp only [Option.map_some, Option.some.injEq] at h2
    subst h2
    obtain ⟨j, h3, h4⟩ := hf v (hmem v (List.mem_of_getElem? h1))
    exact OK.at' j v _ h3 h4
  · rw [List.pairwise_map]
    exact List.Pairwise.imp_of_mem (fun {a b} ha hb h => by rw [← hκf a (hmem a ha), ← hκf b (hmem b hb)]; exact h) hU
  · obtain ⟨v, hv, rfl⟩ := List.mem_map.mp h
    obtain ⟨i, _, h2⟩ := hf v (hmem v hv)
    exact List.mem_of_getElem? h2
  · obtain ⟨i, hi⟩ := List.mem_iff_getElem?.mp h
    obtain ⟨v, hv⟩ : ∃ v, ts[i]? = some v := ⟨_, List.getElem?_eq_getElem (by rw [OK.len]; exact (List.getElem?_eq_some_iff.mp hi).1)⟩
    have hvt : v ∈ ts := List.mem_of_getElem? hv
    obtain ⟨j, h3, h4⟩ := hf v hvt
    have e := (hk i v ds hv hi).symm.trans (hκf v hvt)
    have := code_inj ds (OK.allp ds h) _ (OK.allp _ (List.mem_of_getElem? h4)) e
    rw [this]
    exact List.mem_map_of_mem (hp.mem_iff.mpr hvt)
theorem last_get : ∀ ds ∈ allP, ds[ds.length - 1]? = some (ds.getLastD 0) := by decide
theorem nm_core : ∀ d ∈ [0, 1, 2], CoreOk (nm d).cps.toList := by
  intro d hd
  simp only [List.mem_cons, List.not_mem_nil, or_false] at hd
  rcases hd with rfl | rfl | rfl <;> exact ⟨by decide, by decide, by decide⟩
theorem row_eq {x : Str} {i j : Int} {f b : Nat} (hi : i.toNat = f) (hj : j.toNat = b) : Txt.mul (Str.ofString " ") i ++ x ++ Txt.mul (Str.ofString " ") j = rowL f x.cps.toList b := by
  have e0 : Str.ofString " " = ⟨#[32]⟩ := by decide
  apply Str.ext'
  apply Array.toList_inj.mp
  show ((Txt.mul (Str.ofString " ") i).cps ++ x.cps ++ (Txt.mul (Str.ofString " ") j).cps).toList = _
  rw [Array.toList_append, Array.toList_append, e0, mul_one_list, mul_one_list, hi, hj]
  simp [rowL]
theorem row_bare (x : Str) : rowL 0 x.cps.toList 0 = x := by
  apply Str.ext'
  simp [rowL]
end Mine
end

section
open PySem PySem.W PyProof.Rows PySem.Spec
set_option maxRecDepth 100000
set_option maxHeartbeats 4000000
set_option Elab.async false
namespace Mine
section
variable {prog : Program} {w : World} {A : Around} {E : Value → Shared → Prop} {s : Shared} {l : Addr} {vs : List Value} {n i : Nat} {k : Int} {u : Tok} {v : Value}
/-- an item from the end -/
theorem back_at {value slice : PySem.Expr} {Q : Value → Shared → Prop}
    (ho : s.heap.get? l = some (listOf vs.toArray n)) (hk : k < 0) (hi : k + (vs.length : Int) = (i : Nat)) (hx : vs[i]? = some v) (hz : vs.length < 100) (h : Q v s)
    (hs : subscripted slice false (.ref l) (.int k u) = operate [.ref l, .int k u] (getItem (.ref l) (.int k u)) := by with_unfolding_all rfl) :
    wpAny (model prog w) A (subscriptTail value slice (.ref l) (.int k u)) Q E s := by
  have e : (List.toArray vs).size = vs.length := List.size_toArray ..
  refine tail_any (PySem.IsL.isList ho).typeIs slot_list_getitem.lookup (wpAny_getItem_list_neg (PySem.IsL.isList ho) hk (by rw [e]; omega) (by first | grind | omega) ?_ h) hs
  rw [e, hi, Int.toNat_natCast]
  simpa using hx
end
def prefs (p : List Nat) : List Str := (List.range (p.length + 1)).map fun k => pathS (p.take k)
theorem prefs_next {p ds : List Nat} (h1 : p.take (ds.length - 1) = ds.dropLast) (h2 : ds.length - 1 ≤ p.length) (h0 : 0 < ds.length) : (prefs p).take ds.length ++ [pathS ds] = prefs ds := by
  have e1 : ds.dropLast = ds.take (ds.length - 1) := List.dropLast_eq_take
  apply List.ext_getElem?
  intro k
  unfold prefs
  by_cases hk : k < ds.length
  · rw [List.getElem?_append_left (by simp; omega), List.getElem?_take, if_pos hk, List.getElem?_map, List.getElem?_map, List.getElem?_range (by first | grind | omega), List.getElem?_range (by exact Nat.lt_succ_of_lt (by assumption))]
    simp only [Option.map_some]
    have : p.take k = ds.take k := by
      have := congrArg (List.take k) (h1.trans e1)
      rw [List.take_take, List.take_take, Nat.min_eq_left (by exact Nat.le_sub_one_of_lt (by assumption))] at this
      exact this
    rw [this]
  · by_cases hk2 : k = ds.length
    · subst hk2
      rw [List.getElem?_append_right (by simp; omega), List.getElem?_map, List.getElem?_range (by exact Nat.le_refl _)]
      simp
      have : min ds.length (p.length + 1) = ds.length := by first | grind | omega
      simp [this]
    · rw [List.getElem?_eq_none (by simp; omega), List.getElem?_eq_none (by simp; omega)]
theorem prefs_at {p : List Nat} {k : Nat} (h : k ≤ p.length) : (prefs p)[k]? = some (pathS (p.take k)) := by
  unfold prefs
  rw [List.getElem?_map, List.getElem?_range (by exact Nat.lt_succ_of_le (by assumption))]; rfl
theorem prefs_len (p : List Nat) : (prefs p).length = p.length + 1 := by simp [prefs]
theorem row_6 {d : Nat} (h : d ≤ 3) : 2 * (d - 1) ≤ 6 := Nat.mul_le_mul_left 2 (Nat.le_trans (Nat.sub_le d 1) h)
theorem row_j {d : Nat} (h : d ≤ 3) : 2 * (d - 1) < 20 := Nat.lt_of_le_of_lt (row_6 h) (by decide)
theorem row_a {d n l : Nat} (h : d ≤ 3) (hn : n < 4) (hl : l = n) : 2 * (d - 1) + l + (12 - 2 * (d - 1) - n) < 100 :=
  Nat.lt_of_le_of_lt (Nat.add_le_add (Nat.add_le_add (row_6 h) (Nat.le_of_lt (hl ▸ hn : l < 4))) (Nat.le_trans (Nat.sub_le _ _) (Nat.sub_le 12 _))) (by decide)
theorem row_b {d : Nat} (h : d ≤ 3) : 2 * (d - 1) - 12 = 0 := Nat.sub_eq_zero_of_le (Nat.le_trans (row_6 h) (by decide))
theorem row_c (a n : Nat) : 12 - a - n - (12 - a) = 0 := Nat.sub_eq_zero_of_le (Nat.sub_le _ _)
theorem row_f {d n : Nat} (h : d ≤ 3) (hn : n < 4) : 12 - ((2 * (d - 1) : Nat) : Int) - ((n : Nat) : Int) = ((12 - 2 * (d - 1) - n : Nat) : Int) := by
  rw [Int.natCast_sub (Nat.le_sub_of_add_le (Nat.le_trans (Nat.add_le_add (Nat.le_of_lt hn) (row_6 h)) (by decide))), Int.natCast_sub (Nat.le_trans (row_6 h) (by decide))]
  rfl
theorem row_d {d n : Nat} (h : d ≤ 3) (hn : n < 4) : (12 - ((2 * (d - 1) : Nat) : Int) - ((n : Nat) : Int)).toNat = 12 - 2 * (d - 1) - n := by
  rw [row_f h hn]; rfl
theorem row_g (d n : Nat) : 12 - d - n < 20 := Nat.lt_of_le_of_lt (Nat.le_trans (Nat.sub_le _ _) (Nat.sub_le 12 d)) (by decide)
theorem row_h {a b : Nat} (h : a ≤ 3) : min a b + 1 < 1000 := Nat.lt_of_le_of_lt (Nat.succ_le_succ (Nat.le_trans (Nat.min_le_left a b) h)) (by decide)
theorem row_i {n : Nat} (a : Int) (h : n < 4) : 2 * a + (12 - 2 * a - (n : Int)) = ((12 - n : Nat) : Int) := by
  rw [Int.natCast_sub (Nat.le_trans (Nat.le_of_lt h) (by decide)), Int.sub_sub, Int.add_comm (2 * a) n, ← Int.sub_sub, Int.add_comm, Int.sub_add_cancel]
  rfl
theorem row_k (a : Int) : ∃ k : Nat, a.fmod 8 = ((k : Nat) : Int) ∧ k < 8 := by
  have h1 := Int.fmod_nonneg_of_pos a (b := 8) (by decide)
  have h2 := Int.fmod_lt_of_pos a (b := 8) (by decide)
  exact ⟨(a.fmod 8).toNat, (Int.toNat_of_nonneg h1).symm, (Int.toNat_lt h1).mpr h2⟩
end Mine
end

section
open PySem PySem.W PyProof.Rows PySem.Spec PyProof.Rows.LCg
set_option maxRecDepth 100000
set_option maxHeartbeats 4000000
set_option Elab.async false
namespace Mine
/-! a list comprehension of two clauses -/
abbrev twoC (elt t1 i1 t2 i2 : PySem.Expr) (scope : Scope) (pos : Pos) : PySem.Expr := .ListComp elt [⟨t1, i1, [], 0⟩, ⟨t2, i2, [], 0⟩] scope pos
theorem compTurn_two0 (elt t1 i1 t2 i2 : PySem.Expr) (scope : Scope) (pos : Pos) (it acc : Value) (env : Env) :
    compTurn (twoC elt t1 i1 t2 i2 scope pos) 0 it acc env = (standAt i1.pos >>= fun _ => pyNext it >>= fun r => match r with
      | none => pure (.done .next)
      | some v => letOwnedTupleGo t1 it v >>= fun _ => assign t1 env v >>= fun _ =>
        eval i2 env >>= fun x => standAt i2.pos >>= fun _ => foldedSetIterable i2 env x >>= fun x => holding [x] (pyIter x) >>= fun it2 =>
          runOwn (.compStart (twoC elt t1 i1 t2 i2 scope pos) 1 it2 acc env) env >>= fun _ =>
          again (.compLoop (twoC elt t1 i1 t2 i2 scope pos) 0 it acc env)) := by rfl
theorem compTurn_two1 (elt t1 i1 t2 i2 : PySem.Expr) (scope : Scope) (pos : Pos) (it acc : Value) (env : Env) :
    compTurn (twoC elt t1 i1 t2 i2 scope pos) 1 it acc env = (standAt i2.pos >>= fun _ => pyNext it >>= fun r => match r with
      | none => pure (.done .next)
      | some v => letOwnedTupleGo t2 it v >>= fun _ => assign t2 env v >>= fun _ =>
        (eval elt env >>= fun x => call (.builtin "list.append") [acc, x] >>= fun _ => pure ()) >>= fun _ =>
          again (.compLoop (twoC elt t1 i1 t2 i2 scope pos) 1 it acc env)) := by rfl
section
variable {prog : Program} {w : World} {A : Around} {E : Value → Shared → Prop} {R : Result → Shared → Prop} {s : Shared} {env : Env}
theorem codeAny_two1 {elt t1 i1 t2 i2 : PySem.Expr} {scope : Scope} {pos : Pos} {it acc : Value} (I : Nat → Shared → Prop)
    (turn : ∀ n s, I n s → wpAny (model prog w) A (pyNext it) (fun r s₁ => match r with
      | none => R (.ok .next) s₁
      | some v => wpAny (model prog w) A (assign t2 env v) (fun _ s₂ => wpAny (model prog w) A (eval elt env) (fun x s₃ =>
          wpAny (model prog w) A (call (.builtin "list.append") [acc, x]) (fun _ s₄ => ∃ m, m < n ∧ I m s₄) (notedBy (model prog w) A env fun e s' => R (.error e) s') s₃)
          (notedBy (model prog w) A env fun e s' => R (.error e) s') s₂) (notedBy (model prog w) A env fun e s' => R (.error e) s') s₁) (notedBy (model prog w) A env fun e s' => R (.error e) s') s)
    (n : Nat) (h : I n s) (ht : ∀ v, letOwnedTupleGo t2 it v = pure ()) :
    codeAny (model prog w) A (.compLoop (twoC elt t1 i1 t2 i2 scope pos) 1 it acc env) R s := by
  refine codeAny_loop rfl I (fun n s hI => ?_) n h
  show wpAny _ A ((compTurn (twoC elt t1 i1 t2 i2 scope pos) 1 it acc env).onRaise (fun x => do noteFrame x env; theTreesLotGoes x)) _ _ s
  refine wpAny_noted ?_
  rw [compTurn_two1]
  refine wpAny_bind (wpAny_standAt (wpAny_bind (wpAny_mono (turn n s hI) (fun r s₁ h₁ => ?_) fun _ _ h' => h')))
  cases r with
  | none => exact wpAny_pure h₁
  | some v =>
    refine wpAny_bind (wpAny_of_eq (ht v) ?_)
    exact wpAny_bind (wpAny_mono h₁ (fun _ s₂ h₂ => wpAny_bind (wpAny_bind (wpAny_mono h₂ (fun x s₃ h₃ => wpAny_bind (wpAny_mono h₃
      (fun _ s₄ h₄ => wpAny_pure (wpAny_pure ⟨rfl, h₄⟩)) fun _ _ h' => h')) fun _ _ h' => h'))) fun _ _ h' => h')
theorem codeAny_two0 {elt t1 i1 t2 i2 : PySem.Expr} {scope : Scope} {pos : Pos} {it acc : Value} (I : Nat → Shared → Prop)
    (turn : ∀ n s, I n s → wpAny (model prog w) A (pyNext it) (fun r s₁ => match r with
      | none => R (.ok .next) s₁
      | some v => wpAny (model prog w) A (assign t1 env v) (fun _ s₂ => wpAny (model prog w) A (eval i2 env) (fun x s₃ =>
          wpAny (model prog w) A (pyIter x) (fun it2 s₄ => codeAny (model prog w) A (.compStart (twoC elt t1 i1 t2 i2 scope pos) 1 it2 acc env)
            (fun r s₅ => match r with | .ok _ => ∃ m, m < n ∧ I m s₅ | .error x => cameBackBy (model prog w) A env (notedBy (model prog w) A env fun e s' => R (.error e) s') x s₅) s₄) (notedBy (model prog w) A env fun e s' => R (.error e) s') s₃)
          (notedBy (model prog w) A env fun e s' => R (.error e) s') s₂) (notedBy (model prog w) A env fun e s' => R (.error e) s') s₁) (notedBy (model prog w) A env fun e s' => R (.error e) s') s)
    (n : Nat) (h : I n s) (ht : ∀ v, letOwnedTupleGo t1 it v = pure ()) (hs : ∀ x, foldedSetIterable i2 env x = pure x) :
    codeAny (model prog w) A (.compLoop (twoC elt t1 i1 t2 i2 scope pos) 0 it acc env) R s := by
  refine codeAny_loop rfl I (fun n s hI => ?_) n h
  show wpAny _ A ((compTurn (twoC elt t1 i1 t2 i2 scope pos) 0 it acc env).onRaise (fun x => do noteFrame x env; theTreesLotGoes x)) _ _ s
  refine wpAny_noted ?_
  rw [compTurn_two0]
  refine wpAny_bind (wpAny_standAt (wpAny_bind (wpAny_mono (turn n s hI) (fun r s₁ h₁ => ?_) fun _ _ h' => h')))
  cases r with
  | none => exact wpAny_pure h₁
  | some v =>
    refine wpAny_bind (wpAny_of_eq (ht v) ?_)
    refine wpAny_bind (wpAny_mono h₁ (fun _ s₂ h₂ => wpAny_bind (wpAny_mono h₂ (fun x s₃ h₃ => ?_) fun _ _ h' => h')) fun _ _ h' => h')
    refine wpAny_bind (wpAny_standAt (wpAny_bind (wpAny_of_eq (hs x) (wpAny_bind (wpAny_holding (wpAny_mono h₃ (fun it2 s₄ h₄ => ?_) fun _ _ h' => h'))))))
    refine wpAny_bind (wpAny_runOwn (codeAny_mono h₄ fun r s₅ h₅ => ?_))
    cases r with
    | ok f => exact wpAny_pure ⟨rfl, h₅⟩
    | error x => exact h₅
theorem codeAny_start1 {elt t1 i1 t2 i2 : PySem.Expr} {scope : Scope} {pos : Pos} {it acc : Value}
    (h0 : codeAny (model prog w) A (.compLoop (twoC elt t1 i1 t2 i2 scope pos) 1 it acc env) R s)
    (h : wpAny (model prog w) A (pyIter it) (fun it' s' => codeAny (model prog w) A (.compLoop (twoC elt t1 i1 t2 i2 scope pos) 1 it' acc env) R s')
      (notedBy (model prog w) A env fun x s' => R (.error x) s') s) :
    codeAny (model prog w) A (.compStart (twoC elt t1 i1 t2 i2 scope pos) 1 it acc env) R s := by
  refine codeAny_of_tree ?_
  show wpAny _ _ ((compStart (twoC elt t1 i1 t2 i2 scope pos) 1 it acc env).onRaise (fun x => do noteFrame x env; standAt theWindowsPlace)) _ _ s
  refine wpAny_notedAt ?_
  unfold compStart
  show wpAny _ _ (ask >>= _) _ _ s
  refine wpAny_bind (wpAny_askSetting (wpAny_ite ?_))
  split
  · exact wpAny_pure (And.intro rfl h0)
  · refine wpAny_bind (wpAny_rule ?_)
    show wpAny _ _ (standAt i2.pos >>= _) _ _ s
    exact wpAny_bind (wpAny_standAt (wpAny_bind (wpAny_mono h (fun it' s' h' => wpAny_pure (And.intro rfl h')) fun _ _ x => x)))
end
section
variable {prog : Program} {w : World} {A : Around} {E : Value → Shared → Prop} {s : Shared} {h₀ : Heap} {L : Addr} {m : Str → Option Value} {env : Env}
def OuterEnd (h₀ : Heap) (L : Addr) (m : Str → Option Value) (s : Shared) (I : Addr) (oI : Obj) (C : Addr) (oC : Obj) (D : Addr) (ys : List Value) (S : List (Addr × Obj) → Prop) (K : Addr → List Value → List (Addr × Obj) → Prop) (xv : Value) (s' : Shared) : Prop :=
  ∃ ax its c h' tk' nw', xv = .ref ax ∧ s' = { s with heap := h', toks := tk' } ∧ Fr h₀ L h' m ∧ News h₀ L h' ((I, oI) :: (C, oC) :: (D, lst ys) :: nw') ∧ Off3 I C D nw' ∧ S nw' ∧ (ax, listOf (List.toArray its) c) ∈ nw' ∧ K ax its nw'
theorem OuterEnd.intro {s : Shared} {I C D : Addr} {oI oC : Obj} {ys : List Value} {S : List (Addr × Obj) → Prop} {K : Addr → List Value → List (Addr × Obj) → Prop} {ax : Addr} {h' : Heap} {tk' : Nat} {all : List (Addr × Obj)} (its : List Value) (c : Nat) (nw' : List (Addr × Obj))
    (F : Fr h₀ L h' m) (N : News h₀ L h' all) (sub : ∀ p ∈ (I, oI) :: (C, oC) :: (D, lst ys) :: nw', p ∈ all) (off : Off3 I C D nw') (hS : S nw') (hm : (ax, listOf (List.toArray its) c) ∈ nw') (hk : K ax its nw') :
    OuterEnd h₀ L m s I oI C oC D ys S K (.ref ax) { s with heap := h', toks := tk' } := ⟨ax, its, c, h', tk', nw', rfl, rfl, F, fun p hp => N p (sub p hp), off, hS, hm, hk⟩
def InnerEnd (h₀ : Heap) (L : Addr) (m : Str → Option Value) (s : Shared) (I2 : Addr) (oI2 : Obj) (I : Addr) (oI : Obj) (C : Addr) (oC : Obj) (D : Addr) (ys : List Value) (S : List (Addr × Obj) → Prop) (ax : Addr) (its : List Value) (c : Nat) (K : Value → List (Addr × Obj) → Prop) (r : Value) (s' : Shared) : Prop :=
  ∃ h' tk' nw', s' = { s with heap := h', toks := tk' } ∧ Fr h₀ L h' m ∧ News h₀ L h' ((I2, oI2) :: (I, oI) :: (C, oC) :: (D, lst ys) :: nw') ∧ Off3 I C D nw' ∧ (∀ p ∈ nw', p.1 ≠ I2) ∧ S nw' ∧ (ax, listOf (List.toArray its) c) ∈ nw' ∧ K r nw'
theorem InnerEnd.intro {s : Shared} {I2 I C D ax : Addr} {oI2 oI oC : Obj} {ys its : List Value} {c : Nat} {S : List (Addr × Obj) → Prop} {K : Value → List (Addr × Obj) → Prop} {r : Value} {h' : Heap} {tk' : Nat} (nw' : List (Addr × Obj))
    (F : Fr h₀ L h' m) (N : News h₀ L h' ((I2, oI2) :: (I, oI) :: (C, oC) :: (D, lst ys) :: nw')) (off : Off3 I C D nw') (offI : ∀ p ∈ nw', p.1 ≠ I2) (hS : S nw') (hm : (ax, listOf (List.toArray its) c) ∈ nw') (hk : K r nw') :
    InnerEnd h₀ L m s I2 oI2 I oI C oC D ys S ax its c K r { s with heap := h', toks := tk' } := ⟨h', tk', nw', rfl, F, N, off, offI, hS, hm, hk⟩
/-- the outer turn's source, and the inner turn -/
def TwoOuter (prog : Program) (w : World) (A : Around) (h₀ : Heap) (L : Addr) (m : Str → Option Value) (env : Env) (i2 : PySem.Expr) (x : Str) (scope : Scope) (cl : List (Str × Addr)) (s : Shared) (I : Addr) (n : Nat) (P : Nat → Value → Prop) (S : List (Addr × Obj) → Prop)
    (J : Nat → List Value → List (Addr × Obj) → Prop) (K : Nat → Value → Addr → List Value → Nat → List Value → List (Addr × Obj) → Prop) : Prop :=
  ∀ i v ys nw oI C oC D m₂ h tk (E' : Value → Shared → Prop), i < n → P i v → J i ys nw → NsObj oC m₂ → m₂ x = some v → Fr h₀ L h m → News h₀ L h ((I, oI) :: (C, oC) :: (D, lst ys) :: nw) → Off3 I C D nw → (I ≠ C ∧ I ≠ D ∧ C ≠ D) → S nw →
    wpAny (model prog w) A (eval i2 (compEnvC scope cl C env)) (OuterEnd h₀ L m { s with heap := h, toks := tk } I oI C oC D ys S (fun ax its nw' => K i v ax its 0 ys nw')) E' { s with heap := h, toks := tk }
def TwoInner (prog : Program) (w : World) (A : Around) (h₀ : Heap) (L : Addr) (m : Str → Option Value) (env : Env) (elt : PySem.Expr) (x y : Str) (scope : Scope) (cl : List (Str × Addr)) (s : Shared) (I : Addr) (S : List (Addr × Obj) → Prop)
    (K : Nat → Value → Addr → List Value → Nat → List Value → List (Addr × Obj) → Prop) : Prop :=
  ∀ i v ax its c j u ys nw oI I2 oI2 C oC D m₂ h tk (E' : Value → Shared → Prop), its[j]? = some u → K i v ax its j ys nw → (ax, listOf (List.toArray its) c) ∈ nw → NsObj oC m₂ → m₂ x = some v → m₂ y = some u → Fr h₀ L h m →
    News h₀ L h ((I2, oI2) :: (I, oI) :: (C, oC) :: (D, lst ys) :: nw) → Off3 I C D nw → (∀ p ∈ nw, p.1 ≠ I2) → (I2 ≠ I ∧ I2 ≠ C ∧ I2 ≠ D) → (I ≠ C ∧ I ≠ D ∧ C ≠ D) → S nw →
    wpAny (model prog w) A (eval elt (compEnvC scope cl C env)) (InnerEnd h₀ L m { s with heap := h, toks := tk } I2 oI2 I oI C oC D ys S ax its c (fun r nw' => K i v ax its (j + 1) (ys ++ [r]) nw')) E' { s with heap := h, toks := tk }
theorem two_inner {elt i1 i2 : PySem.Expr} {x y : Str} {px py : Pos} {scope : Scope} {cl : List (Str × Addr)} {pos : Pos} {s₂ : Shared} {I : Addr} {S : List (Addr × Obj) → Prop} {K : Nat → Value → Addr → List Value → Nat → List Value → List (Addr × Obj) → Prop}
    {RR : Result → Shared → Prop} (hh : A.handled = none) (hkind : scope.kind = .function) (hy : scope.names.lookup y = some .local) (hxy : x ≠ y) (hK : ∀ i v ax its j ys nw, K i v ax its j ys nw → ys.length < 1000)
    (inner : TwoInner prog w A h₀ L m env elt x y scope cl s₂ I S K) {i : Nat} {v : Value} {ax : Addr} {its : List Value} {c : Nat} {ys : List Value} {nw : List (Addr × Obj)} {oI oC : Obj} {C D : Addr} {m₂ : Str → Option Value} {h : Heap} {tk : Nat}
    (hk0 : K i v ax its 0 ys nw) (hax : (ax, listOf (List.toArray its) c) ∈ nw) (hC : NsObj oC m₂) (hx : m₂ x = some v) (F : Fr h₀ L h m) (N : News h₀ L h ((I, oI) :: (C, oC) :: (D, lst ys) :: nw)) (off : Off3 I C D nw) (ne : I ≠ C ∧ I ≠ D ∧ C ≠ D) (hS : S nw)
    (done : ∀ ys nw oC m₂ h tk, K i v ax its its.length ys nw → NsObj oC m₂ → m₂ x = some v → Fr h₀ L h m → News h₀ L h ((I, oI) :: (C, oC) :: (D, lst ys) :: nw) → Off3 I C D nw → S nw → RR (.ok .next) { s₂ with heap := h, toks := tk }) :
    wpAny (model prog w) A (pyIter (.ref ax)) (fun it2 s₄ => codeAny (model prog w) A (.compStart (twoC elt (.Name x px) i1 (.Name y py) i2 scope pos) 1 it2 (.ref D) (compEnvC scope cl C env)) RR s₄) E { s₂ with heap := h, toks := tk } := by
  have hl : h.IsList ax its.toArray := PySem.IsL.isList (N _ (.tail _ (.tail _ (.tail _ hax)))).1
  have hlt : ax < h.objs.size := Heap.lt_size (N _ (.tail _ (.tail _ (.tail _ hax)))).1
  refine wpAny_pyIter_list hl ?_
  have W := Walks.list (prog := prog) (w := w) hh h.objs.size ax (Nat.ne_of_lt hlt) its.toArray
  rw [show its.toArray.size = its.length from List.size_toArray ..] at W
  have hN : ∀ p ∈ (I, oI) :: (C, oC) :: (D, lst ys) :: nw, p.1 < h.objs.size := fun p hp => Heap.lt_size (N p hp).1
  have hI2L : h.objs.size ≠ L := Nat.ne_of_gt F.ns.lt
  have hI20 : h₀.get? h.objs.size = none := next_is_new F
  have up : ∀ b o, h.get? b = some o → (h.push { cls := .type "list_iterator", data := .fields #[.ref ax, .int 0 0] }).get? b = some o := fun b o e => Heap.get?_push_of_some _ e
  have hI2I : h.objs.size ≠ I := Nat.ne_of_gt (hN _ (.head _))
  have hI2C : h.objs.size ≠ C := Nat.ne_of_gt (hN _ (.tail _ (.head _)))
  have hI2D : h.objs.size ≠ D := Nat.ne_of_gt (hN _ (.tail _ (.tail _ (.head _))))
  have hI2n : ∀ p ∈ nw, p.1 ≠ h.objs.size := fun p hp => Nat.ne_of_lt (hN _ (.tail _ (.tail _ (.tail _ hp))))
  have F1 := F.keeps up
  have N1 := N.grown up
  have st1 : (h.push { cls := .type "list_iterator", data := .fields #[.ref ax, .int 0 0] }).IsListIter h.objs.size ax 0 := ⟨_, Heap.get?_push_size _ rfl, rfl, rfl⟩
  dsimp only
  generalize h.push { cls := .type "list_iterator", data := .fields #[.ref ax, .int 0 0] } = H1 at F1 N1 st1 ⊢
  generalize h.objs.size = I2 at W hI2L hI20 hI2I hI2C hI2D hI2n st1 ⊢
  have loop : codeAny (model prog w) A (.compLoop (twoC elt (.Name x px) i1 (.Name y py) i2 scope pos) 1 (.ref I2) (.ref D) (compEnvC scope cl C env)) RR { s₂ with heap := H1, toks := tk } := by
    refine codeAny_two1
      (fun k s' => ∃ h' tk' j ys' nw' oC' m', s' = { s₂ with heap := h', toks := tk' } ∧ j ≤ its.length ∧ k = its.length + 1 - j ∧ h'.IsListIter I2 ax j ∧ Fr h₀ L h' m ∧ News h₀ L h' ((I, oI) :: (C, oC') :: (D, lst ys') :: nw') ∧ NsObj oC' m' ∧ m' x = some v ∧
        Off3 I C D nw' ∧ (∀ p ∈ nw', p.1 ≠ I2) ∧ S nw' ∧ (ax, listOf (List.toArray its) c) ∈ nw' ∧ K i v ax its j ys' nw') ?_ (its.length + 1)
      ⟨H1, tk, 0, ys, nw, oC, m₂, rfl, Nat.zero_le _, rfl, st1, F1, N1, hC, hx, off, hI2n, hS, hax, hk0⟩ (by intro _; rfl)
    rintro k s' ⟨h', tk', j, ys', nw', oC', m', rfl, hj, rfl, st', F', N', hC', hx', off', hn', hS', hax', hk'⟩
    have hl' : h'.IsList ax its.toArray := PySem.IsL.isList (N' _ (.tail _ (.tail _ (.tail _ hax')))).1
    have off3 := off'.mem
    have sub : ∀ {h1 : Heap}, (∀ b o, b ∉ [I2] → h'.get? b = some o → h1.get? b = some o) → Fr h₀ L h1 m ∧ News h₀ L h1 ((I, oI) :: (C, oC') :: (D, lst ys') :: nw') := fun hk => by
      refine ⟨fr_but F' hk (Ne.symm hI2L) hI20, news_but N' hk fun p hp => ?_⟩
      rcases List.mem_cons.mp hp with rfl | hp
      · exact Ne.symm hI2I
      · rcases List.mem_cons.mp hp with rfl | hp
        · exact Ne.symm hI2C
        · rcases List.mem_cons.mp hp with rfl | hp
          · exact Ne.symm hI2D
          · exact hn' p hp
    by_cases hlt2 : j < its.length
    · refine W.item j { s₂ with heap := h', toks := tk' } _ _ hlt2 ⟨st', hl'⟩ fun u h2 tk2 hPu hst2 hk2 => ?_
      obtain ⟨F2, N2⟩ := sub hk2
      have hC2 := hC'.ns (N2 (C, oC') (.tail _ (.head _))).1
      refine wpAny_assign_Name (wpAny_storeName_local (lookup_relabel_local hy) hC2 (fun h3 hn3 hs3 => ?_) (by simp [compEnvC, relabel, hkind]))
      have zC := N2 (C, oC') (.tail _ (.head _))
      obtain ⟨oC3, heC3, hoC3⟩ := ns_obj hn3
      have F3 : Fr h₀ L h3 m := F2.change hs3 zC.2.1 zC.2.2
      obtain ⟨oI2, heI2, hoI2⟩ := hst2.1
      have heI3 : h3.get? I2 = some oI2 := hs3.extBut _ _ hI2C heI2
      have N3 : News h₀ L h3 ((I2, oI2) :: (I, oI) :: (C, oC3) :: (D, lst ys') :: nw') := fun p hp => by
        rcases List.mem_cons.mp hp with rfl | hp
        · exact ⟨heI3, hI2L, hI20⟩
        · rcases List.mem_cons.mp hp with rfl | hp
          · have z := N2 (I, oI) (.head _)
            exact ⟨hs3.extBut _ _ ne.1 z.1, z.2⟩
          · rcases List.mem_cons.mp hp with rfl | hp
            · exact ⟨heC3, zC.2⟩
            · have z := N2 p (.tail _ (.tail _ hp))
              refine ⟨hs3.extBut _ _ ?_ z.1, z.2⟩
              rcases List.mem_cons.mp hp with rfl | hp
              · exact Ne.symm ne.2.2
              · exact (off3 p hp).2.1
      refine wpAny_mono (inner i v ax its c j u ys' nw' oI I2 oI2 C oC3 D _ h3 _ _ (by simpa using hPu) hk' hax' hoC3 (by simp [hxy, hx']) (by simp) F3 N3 off' hn' ⟨hI2I, hI2C, hI2D⟩ ne hS') (fun r s4 h4 => ?_) fun _ _ e => e
      obtain ⟨h4, tk4, nw4, rfl, F4, N4, off4, hn4, hS4, hax4, hk4⟩ := h4
      have zD := N4 (D, lst ys') (.tail _ (.tail _ (.tail _ (.head _))))
      have zI2 := N4 (I2, oI2) (.head _)
      refine append_at (hsz := by show ys'.toArray.size ≤ sizeLine; rw [List.size_toArray, sizeLine_eq]; have := hK _ _ _ _ _ _ _ hk'; omega) zD.1 fun h5 hs5 hD5 => ?_
      have off4' := off4.mem
      refine ⟨its.length + 1 - (j + 1), by omega, h5, tk4, j + 1, ys' ++ [r], nw4, oC3, _, rfl, hlt2, rfl, ⟨oI2, hs5.extBut _ _ hI2D zI2.1, hoI2⟩, F4.change hs5 zD.2.1 zD.2.2, fun p hp => ?_, hoC3, (by simp [hxy, hx']), off4, hn4, hS4, hax4, hk4⟩
      rcases List.mem_cons.mp hp with rfl | hp
      · have z := N4 (I, oI) (.tail _ (.head _))
        exact ⟨hs5.extBut _ _ ne.2.1 z.1, z.2⟩
      · rcases List.mem_cons.mp hp with rfl | hp
        · have z := N4 (C, oC3) (.tail _ (.tail _ (.head _)))
          exact ⟨hs5.extBut _ _ ne.2.2 z.1, z.2⟩
        · rcases List.mem_cons.mp hp with rfl | hp
          · exact ⟨hD5.trans (congrArg some (lst_snoc ys' r)), zD.2⟩
          · have z := N4 p (.tail _ (.tail _ (.tail _ (.tail _ hp))))
            exact ⟨hs5.extBut _ _ (off4' p hp).2.2 z.1, z.2⟩
    · have hin : j = its.length := by omega
      subst hin
      refine W.done { s₂ with heap := h', toks := tk' } _ _ ⟨st', hl'⟩ fun h2 tk2 hk2 => ?_
      obtain ⟨F2, N2⟩ := sub hk2
      exact done _ _ _ _ _ _ hk' hC' hx' F2 N2 off' hS'
  refine codeAny_start1 loop (wpAny_pyIter_listiter st1 loop)
theorem block_2 {elt i1 i2 : PySem.Expr} {x y : Str} {px py : Pos} {scope : Scope} {cl : List (Str × Addr)} {pos : Pos} {s₂ : Shared} {I : Addr} {fp : List Addr} {n : Nat} {P : Nat → Value → Prop} {St : Nat → Heap → Prop} {S : List (Addr × Obj) → Prop} {news : List (Addr × Obj)}
    {RR : Value → Addr → Result → Shared → Prop} {J : Nat → List Value → List (Addr × Obj) → Prop} {K : Nat → Value → Addr → List Value → Nat → List Value → List (Addr × Obj) → Prop}
    (hh : A.handled = none) (W : Walks prog w A I fp [I] n P St) (hIo : ∀ i h, St i h → ∃ o, h.get? I = some o)
    (hSt : ∀ i h h' o nw, St i h → h.get? I = some o → h'.get? I = some o → (∀ b o, h₀.get? b = some o → h'.get? b = some o) → News h₀ L h' nw → S nw → St i h')
    (hcell : ∀ y ∈ scope.names, y.2 ≠ .cell) (hkind : scope.kind = .function) (hx : scope.names.lookup x = some .local) (hy : scope.names.lookup y = some .local) (hxy : x ≠ y) (hst : St 0 s₂.heap) (hfp : ∀ b ∈ fp, b < s₂.heap.objs.size)
    (F : Fr h₀ L s₂.heap m) (N : News h₀ L s₂.heap news) (hIL : L ≠ I) (hI₀ : h₀.get? I = none) (off : ∀ p ∈ news, p.1 ≠ I) (hS : S news) (hs2 : ∀ C x, foldedSetIterable i2 (compEnvC scope cl C env) x = pure x)
    (hK : ∀ i v ax its j ys nw, K i v ax its j ys nw → ys.length < 1000) (j0 : J 0 [] news)
    (outer : TwoOuter prog w A h₀ L m env i2 x scope cl s₂ I n P S J K)
    (inner : TwoInner prog w A h₀ L m env elt x y scope cl s₂ I S K)
    (step : ∀ i v ax its ys nw, K i v ax its its.length ys nw → J (i + 1) ys nw)
    (hRR : ∀ D C h tk m' ys news', Fr h₀ L h m → News h₀ L h ((D, lst ys) :: news') → Off1 D news' → h.Ns C m' → h₀.get? C = none → h₀.get? D = none → C ≠ L → D ≠ L → C ≠ D → (∀ p ∈ news', p.1 ≠ C) → J n ys news' → RR (.ref D) C (.ok .next) { s₂ with heap := h, toks := tk }) :
    wpAny (model prog w) A (newList []) (fun acc s₃ => wpAny (model prog w) A (newFunctionEnv scope env.globals cl [] env.qual none .none (some env)) (fun cenv s₄ =>
      codeAny (model prog w) A (.compStart (twoC elt (.Name x px) i1 (.Name y py) i2 scope pos) 0 (.ref I) acc { cenv with scope := relabel scope env }) (RR acc cenv.locals) s₄) E s₃) E s₂ := by
  refine wpAny_newObj_type (wpAny_newFunctionEnv hcell (by intro y hy; simp at hy) (fun h₁ hns₁ hsb₁ => ?_) hkind)
  dsimp only at hns₁ hsb₁ ⊢
  generalize hH2 : s₂.heap.push { cls := .type "list", dict := none, data := .seq ([] : List Value).toArray } = H2 at hns₁ hsb₁ ⊢
  have hC : H2.objs.size = s₂.heap.objs.size + 1 := by rw [← hH2, Heap.size_push]
  have hDC : s₂.heap.objs.size ≠ H2.objs.size := by rw [hC]; exact Nat.ne_of_lt (Nat.lt_succ_self _)
  have below : ∀ b, b < s₂.heap.objs.size → b ≠ H2.objs.size ∧ b ≠ s₂.heap.objs.size := fun b hb => ⟨by rw [hC]; exact Nat.ne_of_lt (Nat.lt_succ_of_lt hb), Nat.ne_of_lt hb⟩
  have hDf : s₂.heap.objs.size ∉ fp := fun hm => Nat.lt_irrefl _ (hfp _ hm)
  have hCf : H2.objs.size ∉ fp := fun hm => by have := hfp _ hm; rw [hC] at this; exact Nat.lt_irrefl _ (Nat.lt_of_succ_lt this)
  have hIf : I ∈ fp := W.sub I (List.mem_singleton.mpr rfl)
  have hIlt : I < s₂.heap.objs.size := hfp I hIf
  have old : ∀ b o, s₂.heap.get? b = some o → h₁.get? b = some o := fun b o e => hsb₁.extBut b o (below b (Heap.lt_size e)).1 (Heap.get?_push_of_some _ (hH2 ▸ Heap.get?_push_of_some _ e))
  have hacc : h₁.get? s₂.heap.objs.size = some (lst []) := hsb₁.extBut _ _ hDC (Heap.get?_push_of_some _ (hH2 ▸ Heap.get?_push_size _ rfl))
  have hst₁ : St 0 h₁ := W.frame _ _ _ hst fun b _ o e => old b o e
  have fresh₀ : ∀ a, s₂.heap.objs.size ≤ a → h₀.get? a = none := fun a ha => by
    cases e : h₀.get? a with
    | none => rfl
    | some o' =>
      have := Heap.lt_size (F.keep a o' e)
      exact absurd this (Nat.not_lt.mpr ha)
  have hD₀ : h₀.get? s₂.heap.objs.size = none := fresh₀ _ (Nat.le_refl _)
  have hC₀ : h₀.get? H2.objs.size = none := fresh₀ _ (by rw [hC]; exact Nat.le_succ _)
  have hLlt : L < s₂.heap.objs.size := F.ns.lt
  have hDL : s₂.heap.objs.size ≠ L := Ne.symm (below L hLlt).2
  have hCL : H2.objs.size ≠ L := Ne.symm (below L hLlt).1
  have hCI : I ≠ H2.objs.size := (below I hIlt).1
  have hDI : I ≠ s₂.heap.objs.size := (below I hIlt).2
  have off₀ : Off3 I H2.objs.size s₂.heap.objs.size news := Off3.of fun p hp => ⟨off p hp, (below _ (Heap.lt_size (N p hp).1)).1, (below _ (Heap.lt_size (N p hp).1)).2⟩
  have loop : ∀ s₃ : Shared, s₃ = { s₂ with heap := h₁, toks := s₂.toks + ([] : List (Str × Value)).length } →
      codeAny (model prog w) A (.compLoop (twoC elt (.Name x px) i1 (.Name y py) i2 scope pos) 0 (.ref I) (.ref s₂.heap.objs.size) (compEnvC scope cl H2.objs.size env))
        (RR (.ref s₂.heap.objs.size) H2.objs.size) s₃ := by
    rintro s₃ rfl
    refine codeAny_two0
      (fun k s' => ∃ h' tk i ys m' news', s' = { s₂ with heap := h', toks := tk } ∧ i ≤ n ∧ k = n + 1 - i ∧ St i h' ∧ Fr h₀ L h' m ∧ h'.Ns H2.objs.size m' ∧ News h₀ L h' ((s₂.heap.objs.size, lst ys) :: news') ∧
        Off3 I H2.objs.size s₂.heap.objs.size news' ∧ S news' ∧ J i ys news') ?_ (n + 1)
      ⟨h₁, _, 0, [], _, news, rfl, Nat.zero_le _, rfl, hst₁, F.keeps old, hns₁, fun p hp => ?_, off₀, hS, j0⟩ (by intro _; rfl) (hs2 _)
    · rintro k s' ⟨h', tk, i, ys, m', news', rfl, hi, rfl, hst', F', hn', N', off', hS', hJ'⟩
      have off3 := off'.mem
      by_cases hlt : i < n
      · refine W.item i _ _ _ hlt hst' fun v h₂ tk₂ hPv hst₂ hk₂ => ?_
        refine wpAny_assign_Name (wpAny_storeName_local (lookup_relabel_local hx) (hn'.at' fun o e => hk₂ _ o (by simpa using Ne.symm hCI) e) (fun h₃ hn₃ hs₃ => ?_) (by simp [compEnvC, relabel, hkind]))
        have hst₃ : St (i + 1) h₃ := W.frame _ _ _ hst₂ fun b hb o e => hs₃.extBut b o (fun q => hCf (by have q' : b = H2.objs.size := q; rw [← q']; exact hb)) e
        obtain ⟨oI, heI⟩ := hIo _ _ hst₃
        obtain ⟨oC, heC, hoC⟩ := ns_obj hn₃
        have F₃ : Fr h₀ L h₃ m := (fr_but F' hk₂ hIL hI₀).change hs₃ hCL hC₀
        have N₂ : News h₀ L h₂ ((s₂.heap.objs.size, lst ys) :: news') := news_but N' hk₂ fun p hp => by
          rcases List.mem_cons.mp hp with rfl | hp
          · exact Ne.symm hDI
          · exact (off3 p hp).1
        have N₃ : News h₀ L h₃ ((I, oI) :: (H2.objs.size, oC) :: (s₂.heap.objs.size, lst ys) :: news') := fun p hp => by
          rcases List.mem_cons.mp hp with rfl | hp
          · exact ⟨heI, Ne.symm hIL, hI₀⟩
          · rcases List.mem_cons.mp hp with rfl | hp
            · exact ⟨heC, hCL, hC₀⟩
            · have z := N₂ p hp
              refine ⟨hs₃.extBut _ _ ?_ z.1, z.2⟩
              rcases List.mem_cons.mp hp with rfl | hp
              · exact hDC
              · exact (off3 p hp).2.1
        refine wpAny_mono (outer i v ys news' oI H2.objs.size oC s₂.heap.objs.size _ h₃ _ _ hlt hPv hJ' hoC (by simp) F₃ N₃ off' ⟨hCI, hDI, Ne.symm hDC⟩ hS') (fun xv s₄ h₄ => ?_) fun _ _ e => e
        obtain ⟨ax, its, c, h₄, tk₄, nw₄, rfl, rfl, F₄, N₄, off₄, hS₄, hax, hk0⟩ := h₄
        refine two_inner hh hkind hy hxy hK inner hk0 hax hoC (by simp) F₄ N₄ off₄ ⟨hCI, hDI, Ne.symm hDC⟩ hS₄ fun ys5 nw5 oC5 m5 h5 tk5 hk5 hC5 _ F5 N5 off5 hS5 => ?_
        have N5' : News h₀ L h5 nw5 := fun p hp => N5 p (.tail _ (.tail _ (.tail _ hp)))
        refine ⟨n + 1 - (i + 1), by omega, h5, tk5, i + 1, ys5, m5, nw5, rfl, hlt, rfl, hSt _ _ _ _ _ hst₃ heI (N5 (I, oI) (.head _)).1 F5.keep N5' hS5, F5, hC5.ns (N5 (H2.objs.size, oC5) (.tail _ (.head _))).1, fun p hp => N5 p (.tail _ (.tail _ hp)), off5, hS5, step _ _ _ _ _ _ hk5⟩
      · obtain rfl : i = n := Nat.le_antisymm hi (Nat.not_lt.mp hlt)
        refine W.done _ _ _ hst' fun h₂ tk₂ hk₂ => ?_
        exact hRR _ _ h₂ tk₂ _ ys news' (fr_but F' hk₂ hIL hI₀) (news_but N' hk₂ fun p hp => by
          rcases List.mem_cons.mp hp with rfl | hp
          · exact Ne.symm hDI
          · exact (off3 p hp).1) off'.one (hn'.at' fun o e => hk₂ _ o (by simpa using Ne.symm hCI) e) hC₀ hD₀ hCL hDL (Ne.symm hDC) (fun p hp => (off3 p hp).2.1) hJ'
    · rcases List.mem_cons.mp hp with rfl | hp
      · exact ⟨hacc, hDL, hD₀⟩
      · exact ⟨old _ _ (N p hp).1, (N p hp).2⟩
  exact codeAny_compStart_list (loop _ rfl) (W.self 0 _ _ _ hst₁ (loop _ rfl))
end
end Mine
end

section
open PySem PySem.W PyProof.Rows PySem.Spec PyProof.Rows.LCg
set_option maxRecDepth 100000
set_option maxHeartbeats 4000000
set_option Elab.async false
namespace Mine
section
variable {prog : Program} {w : World} {A : Around} {E : Value → Shared → Prop} {s : Shared} {h₀ : Heap} {L : Addr} {m : Str → Option Value} {env : Env}
def TwoList (prog : Program) (w : World) (A : Around) (h₀ : Heap) (L : Addr) (m : Str → Option Value) (env : Env) (elt i2 : PySem.Expr) (x y : Str) (scope : Scope) (cl : List (Str × Addr)) (Fin : Shared → List Value → List (Addr × Obj) → Prop) (xv : Value) (s₁ : Shared) : Prop :=
  ∃ (ax : Addr) (its : List Value) (c : Nat) (news : List (Addr × Obj)) (J : Nat → List Value → List (Addr × Obj) → Prop) (K : Nat → Value → Addr → List Value → Nat → List Value → List (Addr × Obj) → Prop),
    xv = .ref ax ∧ A.handled = none ∧ Fr h₀ L s₁.heap m ∧ News h₀ L s₁.heap news ∧ (ax, listOf (List.toArray its) c) ∈ news ∧ (∀ i v ax its j ys nw, K i v ax its j ys nw → ys.length < 1000) ∧ J 0 [] news ∧
    (∀ g I, TwoOuter prog w A h₀ L m env i2 x scope cl { s₁ with heap := g } I its.length (fun i v => its[i]? = some v) (fun nw => (ax, listOf (List.toArray its) c) ∈ nw) J K) ∧
    (∀ g I, TwoInner prog w A h₀ L m env elt x y scope cl { s₁ with heap := g } I (fun nw => (ax, listOf (List.toArray its) c) ∈ nw) K) ∧
    (∀ i v ax its ys nw, K i v ax its its.length ys nw → J (i + 1) ys nw) ∧ ∀ g ys nw, J its.length ys nw → Fin { s₁ with heap := g } ys nw
theorem TwoList.mk {elt i2 : PySem.Expr} {x y : Str} {scope : Scope} {cl : List (Str × Addr)} {Fin : Shared → List Value → List (Addr × Obj) → Prop} {s₁ : Shared} {ax : Addr} {its : List Value} {c : Nat} {news : List (Addr × Obj)}
    (J : Nat → List Value → List (Addr × Obj) → Prop) (K : Nat → Value → Addr → List Value → Nat → List Value → List (Addr × Obj) → Prop)
    (hh : A.handled = none) (F : Fr h₀ L s₁.heap m) (N : News h₀ L s₁.heap news) (hm : (ax, listOf (List.toArray its) c) ∈ news) (hK : ∀ i v ax its j ys nw, K i v ax its j ys nw → ys.length < 1000) (j0 : J 0 [] news)
    (outer : ∀ g I, TwoOuter prog w A h₀ L m env i2 x scope cl { s₁ with heap := g } I its.length (fun i v => its[i]? = some v) (fun nw => (ax, listOf (List.toArray its) c) ∈ nw) J K)
    (inner : ∀ g I, TwoInner prog w A h₀ L m env elt x y scope cl { s₁ with heap := g } I (fun nw => (ax, listOf (List.toArray its) c) ∈ nw) K)
    (step : ∀ i v ax its ys nw, K i v ax its its.length ys nw → J (i + 1) ys nw) (fin : ∀ g ys nw, J its.length ys nw → Fin { s₁ with heap := g } ys nw) :
    TwoList prog w A h₀ L m env elt i2 x y scope cl Fin (.ref ax) s₁ := ⟨ax, its, c, news, J, K, rfl, hh, F, N, hm, hK, j0, outer, inner, step, fin⟩
def TwoRange (prog : Program) (w : World) (A : Around) (h₀ : Heap) (L : Addr) (m : Str → Option Value) (env : Env) (elt i2 : PySem.Expr) (x y : Str) (scope : Scope) (cl : List (Str × Addr)) (Fin : Shared → List Value → List (Addr × Obj) → Prop) (xv : Value) (s₁ : Shared) : Prop :=
  ∃ (r : Addr) (a b : Int) (t u v : Tok) (n : Nat) (news : List (Addr × Obj)) (J : Nat → List Value → List (Addr × Obj) → Prop) (K : Nat → Value → Addr → List Value → Nat → List Value → List (Addr × Obj) → Prop),
    xv = .ref r ∧ A.handled = none ∧ Fr h₀ L s₁.heap m ∧ News h₀ L s₁.heap news ∧ IsRange s₁.heap r a b 1 t u v ∧ Builtin.Range.small a b 1 = true ∧ Builtin.Range.rangeSize a b 1 = ((n : Nat) : Int) ∧ (∀ i v ax its j ys nw, K i v ax its j ys nw → ys.length < 1000) ∧ J 0 [] news ∧
    (∀ g I, TwoOuter prog w A h₀ L m env i2 x scope cl { s₁ with heap := g } I n (fun i v => ∃ t, v = .int (a + (i : Int)) t) (fun _ => True) J K) ∧
    (∀ g I, TwoInner prog w A h₀ L m env elt x y scope cl { s₁ with heap := g } I (fun _ => True) K) ∧
    (∀ i v ax its ys nw, K i v ax its its.length ys nw → J (i + 1) ys nw) ∧ ∀ g ys nw, J n ys nw → Fin { s₁ with heap := g } ys nw
theorem TwoRange.mk {elt i2 : PySem.Expr} {x y : Str} {scope : Scope} {cl : List (Str × Addr)} {Fin : Shared → List Value → List (Addr × Obj) → Prop} {s₁ : Shared} {r : Addr} {a b : Int} {t u v : Tok} {n : Nat} {news : List (Addr × Obj)}
    (J : Nat → List Value → List (Addr × Obj) → Prop) (K : Nat → Value → Addr → List Value → Nat → List Value → List (Addr × Obj) → Prop)
    (hh : A.handled = none) (F : Fr h₀ L s₁.heap m) (N : News h₀ L s₁.heap news) (hr : IsRange s₁.heap r a b 1 t u v) (hsm : Builtin.Range.small a b 1 = true) (hn : Builtin.Range.rangeSize a b 1 = ((n : Nat) : Int))
    (hK : ∀ i v ax its j ys nw, K i v ax its j ys nw → ys.length < 1000) (j0 : J 0 [] news)
    (outer : ∀ g I, TwoOuter prog w A h₀ L m env i2 x scope cl { s₁ with heap := g } I n (fun i v => ∃ t, v = .int (a + (i : Int)) t) (fun _ => True) J K)
    (inner : ∀ g I, TwoInner prog w A h₀ L m env elt x y scope cl { s₁ with heap := g } I (fun _ => True) K)
    (step : ∀ i v ax its ys nw, K i v ax its its.length ys nw → J (i + 1) ys nw) (fin : ∀ g ys nw, J n ys nw → Fin { s₁ with heap := g } ys nw) :
    TwoRange prog w A h₀ L m env elt i2 x y scope cl Fin (.ref r) s₁ := ⟨r, a, b, t, u, v, n, news, J, K, rfl, hh, F, N, hr, hsm, hn, hK, j0, outer, inner, step, fin⟩
theorem ListComp_two {elt i1 i2 : PySem.Expr} {x y : Str} {px py : Pos} {scope : Scope} {cl : List (Str × Addr)} {pos : Pos} {Q : Value → Shared → Prop} (_F₀ : Fr h₀ L s.heap m)
    (hclos : closureFor scope env = pure cl) (hcell : ∀ y ∈ scope.names, y.2 ≠ .cell) (hkind : scope.kind = .function)
    (hnames : ∀ y ∈ scope.names, y.2 = .local → scope.names.lookup y.1 = some .local) (hx : scope.names.lookup x = some .local) (hy : scope.names.lookup y = some .local) (hxy : x ≠ y)
    (h : wpAny (model prog w) A (eval i1 env) (TwoRange prog w A h₀ L m env elt i2 x y scope cl (fun s₂ => FinE h₀ L m s₂ Q)) E s)
    (hs : ∀ x, foldedSetIterable i1 env x = pure x := by intro _; rfl) (hs2 : ∀ C x, foldedSetIterable i2 (compEnvC scope cl C env) x = pure x := by intro _ _; rfl) :
    wpAny (model prog w) A (eval (.ListComp elt [⟨.Name x px, i1, [], 0⟩, ⟨.Name y py, i2, [], 0⟩] scope pos) env) Q E s := by
  rw [eval_ListComp]
  refine wpAny_comprehension_free (use := none) rfl hs hclos hkind hnames (wpAny_mono h (fun xv s₁ h₁ => ?_) fun _ _ e => e)
  obtain ⟨r, a, b, t, u, v, n, news, J, K, rfl, hh, F, N, hr, hsm, hn, hK, j0, outer, inner, step, fin⟩ := h₁
  refine wpAny_pyIter_range hr hsm ?_
  refine block_2 hh (range_walks hh a n) (fun i h st => ⟨_, st⟩) range_st hcell hkind hx hy hxy (by show IsRangeIter _ _ _ _ _; rw [hn]; simpa using Heap.get?_push_size _ rfl) (fun b hb => ?_)
    (F.keeps fun _ _ e => Heap.get?_push_of_some _ e) (N.grown fun _ _ e => Heap.get?_push_of_some _ e) (Nat.ne_of_lt F.ns.lt) (next_is_new F) (fun p hp => Nat.ne_of_lt (Heap.lt_size (N p hp).1)) trivial hs2 hK j0 (outer _ _) (inner _ _) step ?_
  · rw [List.mem_singleton.mp hb]
    show s₁.heap.objs.size < (s₁.heap.push _).objs.size
    rw [Heap.size_push]; exact Nat.lt_succ_self _
  · intro D C h' tk m' ys news' F' N' o1 hn hC₀ hD₀ hCL hDL hCD offC hj
    refine ⟨m', hn, fun h'' hs'' => fin s₁.heap _ _ hj D h'' tk (F'.change hs'' hCL hC₀) (fun p hp => ?_) o1⟩
    refine ⟨hs''.extBut _ _ ?_ (N' p hp).1, (N' p hp).2⟩
    rcases List.mem_cons.mp hp with rfl | hp
    · exact Ne.symm hCD
    · exact offC p hp
theorem Assign_ListComp_two {elt i1 i2 : PySem.Expr} {x y z : Str} {px py pz : Pos} {scope : Scope} {cl : List (Str × Addr)} {pos spos : Pos} {Q : Flow → Shared → Prop} (_F₀ : Fr h₀ L s.heap m) (hLe : env.locals = L)
    (hsw : swapsWith (.ListComp elt [⟨.Name x px, i1, [], 0⟩, ⟨.Name y py, i2, [], 0⟩] scope pos) (some (.Name z pz)) spos.line env = pure true)
    (hclos : closureFor scope env = pure cl) (hcell : ∀ z ∈ scope.names, z.2 ≠ .cell) (hkind : scope.kind = .function)
    (hnames : ∀ z ∈ scope.names, z.2 = .local → scope.names.lookup z.1 = some .local) (hx : scope.names.lookup x = some .local) (hy : scope.names.lookup y = some .local) (hxy : x ≠ y)
    (hz : env.kindOf z = some .local) (hp : (env.scope.kind == .class || (env.scope.kind == .module && env.locals != env.globals)) = false)
    (h : wpAny (model prog w) A (eval i1 env) (TwoList prog w A h₀ L m env elt i2 x y scope cl (fun s₂ => FinA h₀ L m s₂ z Q)) E s)
    (hs : ∀ x, foldedSetIterable i1 env x = pure x := by intro _; rfl) (hs2 : ∀ C x, foldedSetIterable i2 (compEnvC scope cl C env) x = pure x := by intro _ _; rfl) :
    wpAny (model prog w) A (exec (.Assign [.Name z pz] (.ListComp elt [⟨.Name x px, i1, [], 0⟩, ⟨.Name y py, i2, [], 0⟩] scope pos) spos) env) Q E s := by
  subst hLe
  rw [exec_Assign_Name_used _ _ _ _ hsw]
  refine wpAny_bind (wpAny_standAt (wpAny_bind ?_))
  show wpAny _ A (do let _ ← comprehension (.ListComp elt [⟨.Name x px, i1, [], 0⟩, ⟨.Name y py, i2, [], 0⟩] scope pos) scope env _ (newList []) false (eval i1 env) (some (assign (.Name z pz) env))) _ _ s
  refine wpAny_bind (wpAny_mono (wpAny_comprehension_free (use := some (assign (.Name z pz) env)) (Q := fun _ s' => Q .next s') rfl hs hclos hkind hnames
    (wpAny_mono h (fun xv s₁ h₁ => ?_) fun _ _ e => e)) (fun _ s' hq => wpAny_pure (wpAny_pure hq)) fun _ _ e => e)
  obtain ⟨ax, its, c, news, J, K, rfl, hh, F, N, hm, hK, j0, outer, inner, step, fin⟩ := h₁
  have hl : s₁.heap.IsList ax its.toArray := PySem.IsL.isList (N _ hm).1
  have hlt : ax < s₁.heap.objs.size := Heap.lt_size (N _ hm).1
  refine wpAny_pyIter_list hl ?_
  have up : ∀ b o, s₁.heap.get? b = some o → (s₁.heap.push { cls := .type "list_iterator", data := .fields #[.ref ax, .int 0 0] }).get? b = some o := fun b o e => Heap.get?_push_of_some _ e
  have W := Walks.list (prog := prog) (w := w) hh s₁.heap.objs.size ax (Nat.ne_of_lt hlt) its.toArray
  rw [show its.toArray.size = its.length from List.size_toArray ..] at W
  have W' : Walks prog w A s₁.heap.objs.size [s₁.heap.objs.size, ax] [s₁.heap.objs.size] its.length (fun i v => its[i]? = some v) (fun i h => h.IsListIter s₁.heap.objs.size ax i ∧ h.IsList ax its.toArray) :=
    { sub := W.sub, frame := W.frame, done := W.done, self := W.self, item := fun i s Q E hi st hQ => W.item i s Q E hi st fun v h' tk hP => hQ v h' tk (by simpa using hP) }
  refine block_2 (S := fun nw => (ax, listOf (List.toArray its) c) ∈ nw) hh W' (fun i h st => by obtain ⟨o, e, _⟩ := st.1; exact ⟨o, e⟩) (fun i h h' o nw st e e' k N S => ⟨by obtain ⟨o', q, r⟩ := st.1; rw [e] at q; cases q; exact ⟨o, e', r⟩, PySem.IsL.isList (N _ S).1⟩) hcell hkind hx hy hxy ⟨⟨_, Heap.get?_push_size _ rfl, rfl, rfl⟩, hl.push _⟩ (fun b hb => ?_)
    (F.keeps up) (N.grown up) (Nat.ne_of_lt F.ns.lt) (next_is_new F) (fun p hp => Nat.ne_of_lt (Heap.lt_size (N p hp).1)) hm hs2 hK j0 (outer _ _) (inner _ _) step ?_
  · show b < (s₁.heap.push _).objs.size
    rw [Heap.size_push]
    rcases List.mem_cons.mp hb with rfl | hb
    · exact Nat.lt_succ_self _
    · rw [List.mem_singleton.mp hb]; exact Nat.lt_succ_of_lt hlt
  · intro D C h' tk m' ys news' F' N' o1 hn hC₀ hD₀ hCL hDL hCD offC hj
    show wpAny _ A (assign (.Name z pz) env (.ref D)) _ _ _
    refine wpAny_assign_Name (wpAny_storeName_local hz F'.ns (fun h₂ hn₂ hs₂ => ?_) hp)
    have hL₀ : h₀.get? env.locals = none := Heap.get?_none_of_le F'.above
    have F₂ : Fr h₀ env.locals h₂ (fun q => if q = z then some (.ref D) else m q) := ⟨hn₂, fun b o e => hs₂.extBut b o (fun q => by rw [q, hL₀] at e; cases e) (F'.keep b o e), F'.above⟩
    refine ⟨m', hn.sameBut hs₂ hCL, fun h'' hs'' => fin s₁.heap _ _ hj D h'' _ (F₂.change hs'' hCL hC₀) (fun p hp => ?_) o1⟩
    have z : h₂.get? p.1 = some p.2 := hs₂.extBut _ _ (N' p hp).2.1 (N' p hp).1
    refine ⟨hs''.extBut _ _ ?_ z, (N' p hp).2⟩
    rcases List.mem_cons.mp hp with rfl | hp
    · exact Ne.symm hCD
    · exact offC p hp
end
end Mine
end

section
open PySem PySem.W PyProof.Rows PySem.Spec
set_option maxRecDepth 100000
set_option maxHeartbeats 4000000
set_option Elab.async false
namespace Mine
theorem ints_item : ∀ {vs : List Value} {ns : List Int}, IntsAre vs ns → ∀ (j : Nat) (v : Value), vs[j]? = some v → ∃ x t, v = .int x t ∧ ns[j]? = some x
  | _, _, .nil, j, v, h => by simp at h
  | _, _, .cons n t h, 0, v, e => ⟨n, t, by simpa using e.symm, rfl⟩
  | _, _, .cons n t h, j + 1, v, e => by simpa using ints_item h j v (by simpa using e)
section
variable {prog : Program} {w : World} {A : Around} {E : Value → Shared → Prop} {s : Shared} {h₀ : Heap} {L a b : Addr} {m : Str → Option Value} {news : List (Addr × Obj)}
theorem add_at {vs ws : List Value} {n k : Nat} {Q : Value → Shared → Prop} (F : Fr h₀ L s.heap m) (N : News h₀ L s.heap news) (ha : s.heap.get? a = some (listOf vs.toArray n)) (hb : s.heap.get? b = some (listOf ws.toArray k)) (hz : vs.length + ws.length < 1000)
    (h : ∀ D h', Fr h₀ L h' m → News h₀ L h' ((D, listOf (List.toArray (vs ++ ws)) 0) :: news) → (∀ p ∈ news, p.1 < D) → Q (.ref D) { s with heap := h' }) : wpAny (model prog w) A (binaryOp .Add (.ref a) (.ref b)) Q E s :=
  kmk_add_lit F N (PySem.IsL.isList ha) (PySem.IsL.isList hb) (by simp) h (by rw [sizeLine_eq]; simp; omega)
open PySem.SeqAt
theorem ne_false {vs ws : List Value} {n k : Nat} {Q : Value → Shared → Prop} (ha : s.heap.get? a = some (listOf vs.toArray n)) (hb : s.heap.get? b = some (listOf ws.toArray k)) (hl : vs.length = ws.length) (hu : A.units < cLine)
    (he : ∀ (j : Nat) v w, vs[j]? = some v → ws[j]? = some w → EqAt A.in1 s v w true) (h : Q (.bool false) s) : wpAny (model prog w) A (compareOp .NotEq (.ref a) (.ref b)) Q E s := by
  refine cmp_ofNotEq ?_
  have := RcNeAt.lists (A := A) (e := fun _ => true) (PySem.IsL.isList ha) (PySem.IsL.isList hb) (by simpa using hl) hu fun j h1 h2 => he j _ _ (by simp) (by simp)
  refine this prog w E Q ?_
  have e : (!(List.range vs.toArray.size).all fun _ => true) = false := by simp
  rw [e]; exact h
theorem ne_strs {vs ws : List Value} {S : List Str} {n k : Nat} {Q : Value → Shared → Prop} (ha : s.heap.get? a = some (listOf vs.toArray n)) (hb : s.heap.get? b = some (listOf ws.toArray k)) (hS : StrsAre vs S) (hT : StrsAre ws S) (hu : A.units < cLine) (h : Q (.bool false) s) :
    wpAny (model prog w) A (compareOp .NotEq (.ref a) (.ref b)) Q E s := by
  refine ne_false ha hb (by rw [hS.len_eq, hT.len_eq]) hu (fun j v w h1 h2 => ?_) h
  obtain ⟨x, t, rfl, hx⟩ := hS.item j v h1
  obtain ⟨y, u, rfl, hy⟩ := hT.item j w h2
  rw [hx] at hy
  obtain rfl := Option.some.inj hy
  have := EqAt.str_str (A := A.in1) (s := s) x t x u
  rwa [show (x == x) = true by simp] at this
theorem ne_ints {vs ws : List Value} {S : List Int} {n k : Nat} {Q : Value → Shared → Prop} (ha : s.heap.get? a = some (listOf vs.toArray n)) (hb : s.heap.get? b = some (listOf ws.toArray k)) (hS : IntsAre vs S) (hT : IntsAre ws S) (hu : A.units < cLine) (h : Q (.bool false) s) :
    wpAny (model prog w) A (compareOp .NotEq (.ref a) (.ref b)) Q E s := by
  refine ne_false ha hb (by rw [hS.length, hT.length]) hu (fun j v w h1 h2 => ?_) h
  obtain ⟨x, t, rfl, hx⟩ := ints_item hS j v h1
  obtain ⟨y, u, rfl, hy⟩ := ints_item hT j w h2
  rw [hx] at hy
  obtain rfl := Option.some.inj hy
  have := EqAt.int_int (A := A.in1) (s := s) x t x u
  rwa [show (x == x) = true by simp] at this
end
end Mine
end

section
open PySem PySem.W PyProof.Rows
set_option maxRecDepth 100000
namespace Mine
def fullC (c : Str) : Bool := c != Str.ofString ""
theorem split_full : ∀ ds ∈ [] :: allP, ((Txt.split (pathS ds) (Str.ofString "/")).filter fullC).length = ds.length := by decide +kernel
theorem full_step {l : List Str} {i k : Nat} {c : Str} (h : l[i]? = some c) (hk : k = ((l.take i).filter fullC).length) : (if fullC c = true then k + 1 else k) = ((l.take (i + 1)).filter fullC).length := by
  rw [List.take_add_one, h, List.filter_append, List.length_append, hk]
  cases q : fullC c <;> simp [q]
end Mine
end

section
open PySem PySem.W PyProof.Rows PySem.Spec
set_option maxRecDepth 100000
set_option maxHeartbeats 4000000
set_option Elab.async false
namespace Mine
/-! sorted(texts, key = a def that hands its text back) -/
def KeyBack (h₀ : Heap) (L : Addr) (m : Str → Option Value) (need : List (Addr × Obj)) (v : Value) (s₁ : Shared) (r : Value) (s₂ : Shared) : Prop :=
  ∃ h' tk, s₂ = { s₁ with heap := h', toks := tk } ∧ r = v ∧ Fr h₀ L h' m ∧ News h₀ L h' need
theorem KeyBack.intro {h₀ h' : Heap} {L : Addr} {m : Str → Option Value} {need all : List (Addr × Obj)} {v : Value} {s₁ : Shared} {tk : Nat} (F : Fr h₀ L h' m) (N : News h₀ L h' all) (hn : ∀ p ∈ need, p ∈ all) : KeyBack h₀ L m need v s₁ v { s₁ with heap := h', toks := tk } :=
  ⟨h', tk, rfl, rfl, F, fun p hp => N p (hn p hp)⟩
section
variable {prog : Program} {w : World} {A : Around} {E : Value → Shared → Prop} {s : Shared} {h₀ : Heap} {L : Addr} {m : Str → Option Value} {news : List (Addr × Obj)} {a kS : Addr} {vs : List Value} {e e1 : Nat} {P : PySem.Fin → Shared → Prop} {K : Nat → Nat}
def OutOk (K : Nat → Nat) (vs out : List Value) : Prop := ∃ p : Array Nat, Rng vs.length p ∧ Inc K p vs.length ∧ out = p.toList.map fun i => vs.getD i Value.none
theorem OutOk.len {out : List Value} (h : OutOk K vs out) : out.length = vs.length := by
  obtain ⟨p, hp, _, rfl⟩ := h
  rw [List.length_map, Array.length_toList, hp.size]
theorem key_tail {st : SortSt} {out : List Value} (F : Fr h₀ L s.heap m) (N : News h₀ L s.heap ((kS, seqObj "list" vs.toArray e) :: (a, seqObj "list" #[] e1) :: news)) (hka : kS ≠ a) (hnk : ∀ p ∈ news, p.1 ≠ kS) (hna : ∀ p ∈ news, p.1 ≠ a)
    (hz : vs.length < 64) (hol : out.length = vs.length) (ho : (arrOf st).map (·.2) = out.toArray) (hf : failedOf st = none)
    (h : ∀ h' c, Fr h₀ L h' m → News h₀ L h' ((a, seqObj "list" out.toArray c) :: news) → P (.done (.ret .none)) { s with heap := h' }) :
    wpAny (model prog w) A (ksk_tail a false e1 (.ref kS) st) P E s := by
  have nk := N _ (.head _)
  have na := N (a, seqObj "list" #[] e1) (.tail _ (.head _))
  have Nn : News h₀ L s.heap news := fun p hp => N p (.tail _ (.tail _ hp))
  have s1 := Heap.SameBut.update s.heap kS (Obj.mapSeq fun _ => (#[] : Array Value))
  have na1 : (s.heap.update kS (Obj.mapSeq fun _ => (#[] : Array Value))).get? a = some (seqObj "list" #[] e1) := (s1.2 a hka.symm).trans na.1
  have s2 := Heap.SameBut.update (s.heap.update kS (Obj.mapSeq fun _ => (#[] : Array Value))) a (Obj.mapSeq fun _ => out.toArray)
  obtain ⟨c2, hc2⟩ : ∃ c2, ((s.heap.update kS (Obj.mapSeq fun _ => (#[] : Array Value))).update a (Obj.mapSeq fun _ => out.toArray)).get? a = some (seqObj "list" out.toArray c2) := ⟨_, get?_update_seq na1 fun _ => out.toArray⟩
  have N2 := kas_news (kas_news Nn s1 hnk) s2 hna
  have hsz : out.toArray.size = vs.length := by rw [List.size_toArray, hol]
  unfold ksk_tail
  simp only [Bool.false_eq_true, if_false]
  rw [ho]
  refine wpAny_bind (listUpdate_at nk.1 rfl ?_ (by rw [List.size_toArray, sizeLine_eq]; omega) (Nat.zero_le _))
  refine wpAny_bind (wpAny_letGo ?_)
  refine wpAny_bind (seqEpoch_at na1 rfl ?_)
  refine wpAny_bind (listUpdate_at na1 rfl ?_ (Nat.zero_le _) (Nat.le_trans (Nat.le_of_eq hsz) (by rw [sizeLine_eq]; omega)))
  rw [hf]
  simp only [bne_self_eq_false, Bool.false_eq_true, if_false]
  refine wpAny_pure (h _ c2 (kas_fr (kas_fr F s1 nk.2.1 nk.2.2) s2 na.2.1 na.2.2) (fun p hp => ?_))
  rcases List.mem_cons.mp hp with rfl | hp
  · exact ⟨hc2, na.2⟩
  · exact N2 p hp
theorem key_end (F : Fr h₀ L s.heap m) (N : News h₀ L s.heap ((kS, seqObj "list" vs.toArray e) :: (a, seqObj "list" #[] e1) :: news)) (hka : kS ≠ a) (hnk : ∀ p ∈ news, p.1 ≠ kS) (hna : ∀ p ∈ news, p.1 ≠ a)
    (hz : vs.length < 64) (hstr : ∀ v ∈ vs, ∃ x t, v = .str x t) (hinj : ∀ i j, i < vs.length → j < vs.length → K i = K j → i = j)
    (hlt : ∀ i j x y t u, vs[i]? = some (.str x t) → vs[j]? = some (.str y u) → decide (x.cps.toList < y.cps.toList) = decide (K i < K j))
    (h : ∀ h' out c, OutOk K vs out → Fr h₀ L h' m → News h₀ L h' ((a, seqObj "list" (List.toArray out) c) :: news) → P (.done (.ret .none)) { s with heap := h' }) :
    wpAny (model prog w) A (ksk_end a false vs.toArray e1 (.ref kS) vs.toArray) P E s := by
  unfold ksk_end
  simp only [Bool.false_eq_true, if_false]
  by_cases h2 : vs.toArray.size < 2
  · rw [if_pos h2, if_pos h2]
    rw [List.size_toArray] at h2
    refine wpAny_bind (wpAny_pure ?_)
    rw [StateT.run_pure]
    refine wpAny_bind (wpAny_pure ?_)
    have hok : OutOk K vs vs := by
      refine ⟨List.toArray (List.range vs.length), List.Perm.refl _, fun i j a b => by omega, ?_⟩
      apply List.ext_getElem?
      intro i
      by_cases hi : i < vs.length
      · simp [List.getElem?_map, List.getElem?_range hi, List.getD, List.getElem?_eq_getElem hi]
      · rw [List.getElem?_eq_none (by omega), List.getElem?_eq_none (by simp; omega)]
    refine key_tail (out := vs) F N hka hnk hna hz rfl ?_ rfl fun h' c F' N' => h h' vs c hok F' N'
    show (vs.toArray.zip vs.toArray).map (·.2) = vs.toArray
    apply Array.toList_inj.mp
    rw [Array.toList_map]
    have := List.map_snd_zip (l₁ := vs) (l₂ := vs) (Nat.le_refl _)
    simpa using this
  · rw [if_neg h2, if_neg h2]
    rw [List.size_toArray] at h2
    refine wpAny_bind (kas_kind (T := .type "str") (by omega) (fun v hv => ?_) (by decide) (by decide) ?_)
    · obtain ⟨x, t, rfl⟩ := hstr v hv
      intro A' Q' E' s' hk hq
      exact wpAny_pure hq
    have est : SortSt.mk' oneType' (vs.toArray.zip vs.toArray) #[] 7 none = kas_st oneType' (pairsOf vs) (List.toArray (List.range vs.length)) := by
      have e := kas_range (pairsOf vs)
      rw [pairsOf_size] at e
      show SortSt.mk' oneType' (pairsOf vs) #[] 7 none = SortSt.mk' oneType' ((List.toArray (List.range vs.length)).map (kas_item (pairsOf vs))) #[] 7 none
      rw [e]
    have ask : (kas_sort vs.length).kasWp (kas_ask prog w A oneType' vs) (fun p s' => s' = s ∧ OutOk K vs (p.toList.map fun i => vs.getD i Value.none)) s := by
      refine sort_ok (K := K) ⟨fun i j C hi hj hC => ?_, hinj⟩ (by omega) fun p hp hI => ⟨rfl, p, hp, hI, rfl⟩
      unfold kas_ask
      have gi : ∀ k, k < vs.length → ∃ x t, vs.getD k .none = .str x t ∧ vs[k]? = some (.str x t) := fun k hk => by
        obtain ⟨x, t, hx⟩ := hstr vs[k] (List.getElem_mem hk)
        refine ⟨x, t, ?_, ?_⟩
        · simp [List.getD, List.getElem?_eq_getElem hk, hx]
        · rw [List.getElem?_eq_getElem hk, hx]
      obtain ⟨x, t, e1, f1⟩ := gi i hi
      obtain ⟨y, u, e2, f2⟩ := gi j hj
      rw [e1, e2]
      refine kas_lt_str ?_
      rw [hlt i j x y t u f1 f2]
      exact hC
    rw [kas_ask_eq] at ask
    have run := kas_runs (E := E) (Q := fun _ st' s' => ∃ out, s' = s ∧ OutOk K vs out ∧ (arrOf st').map (·.2) = List.toArray out ∧ failedOf st' = none) (by omega) hz (fun p' st' s' a1 a2 a3 a4 => ⟨_, a4.1, a4.2, by
      apply Array.toList_inj.mp
      rw [a2, Array.map_map, Array.toList_map]
      exact List.map_congr_left fun i _ => by show (kas_item (pairsOf vs) i).2 = _; rw [kas_item_eq], a3⟩) ask
    rw [← est] at run
    refine wpAny_bind (wpAny_mono run ?_ fun _ _ e => e)
    rintro ⟨⟨⟩, st'⟩ s' ⟨out, rfl, hok, ho, hf⟩
    exact key_tail F N hka hnk hna hz hok.len ho hf fun h' c F' N' => h h' out c hok F' N'
theorem key_rest {f : Value} (F : Fr h₀ L s.heap m) (N : News h₀ L s.heap ((kS, seqObj "list" #[] 0) :: (a, seqObj "list" #[] e1) :: news)) (hka : kS ≠ a) (hnk : ∀ p ∈ news, p.1 ≠ kS) (hna : ∀ p ∈ news, p.1 ≠ a)
    (hz : vs.length < 64) (hstr : ∀ v ∈ vs, ∃ x t, v = .str x t) (hinj : ∀ i j, i < vs.length → j < vs.length → K i = K j → i = j)
    (hlt : ∀ i j x y t u, vs[i]? = some (.str x t) → vs[j]? = some (.str y u) → decide (x.cps.toList < y.cps.toList) = decide (K i < K j))
    (turn : ∀ v ∈ vs, ∀ (h : Heap) (tk : Nat) (nw : List (Addr × Obj)), Fr h₀ L h m → News h₀ L h nw → wpAny (model prog w) A (call f [v]) (KeyBack h₀ L m nw v { s with heap := h, toks := tk }) (fun _ _ => False) { s with heap := h, toks := tk })
    (h : ∀ h' tk out c, OutOk K vs out → Fr h₀ L h' m → News h₀ L h' ((a, seqObj "list" (List.toArray out) c) :: news) → P (.done (.ret .none)) { s with heap := h', toks := tk }) :
    wpAny (model prog w) A (ksk_rest a f false vs.toArray e1 (.ref kS)) P E s := by
  unfold ksk_rest
  refine wpAny_bind (wpAny_rule ?_)
  first
    | rw [List.forIn_toArray]
    | (rw [← Array.forIn_toList]; simp only [List.toList_toArray])
  refine wpAny_bind (ksk_fold (fun i s' => ∃ h' tk c, s' = { s with heap := h', toks := tk } ∧ Fr h₀ L h' m ∧ News h₀ L h' ((kS, seqObj "list" (vs.take i).toArray c) :: (a, seqObj "list" #[] e1) :: news)) vs 0 s ⟨s.heap, s.toks, 0, rfl, F, N⟩ ?step ?done)
  case step =>
    rintro j x s' hx ⟨h', tk, c, rfl, F', N'⟩
    simp only [Nat.zero_add] at N' ⊢
    have hj : j < vs.length := (List.getElem?_eq_some_iff.mp hx).1
    refine wpAny_bind (wpAny_attempt (wpAny_mono (turn x (List.mem_of_getElem? hx) h' tk _ F' N') (fun v s'' he => ?_) fun _ _ hF => hF.elim))
    obtain ⟨g, tk2, rfl, rfl, F2, N2⟩ := he
    try dsimp only
    have nk := N2 _ (.head _)
    have na := N2 (a, seqObj "list" #[] e1) (.tail _ (.head _))
    have s1 := Heap.SameBut.update g kS (Obj.mapSeq (·.push v))
    obtain ⟨c2, hc2⟩ : ∃ c2, (g.update kS (Obj.mapSeq (·.push v))).get? kS = some (seqObj "list" ((vs.take j).toArray.push v) c2) := ⟨_, get?_update_seq nk.1 (·.push v)⟩
    have ek : vs.take (j + 1) = vs.take j ++ [v] := by rw [List.take_add_one, hx]; rfl
    have ea : ((vs.take j).toArray.push v) = (vs.take (j + 1)).toArray := by rw [ek]; simp
    have hsz : (vs.take j).toArray.size ≤ vs.length := by rw [List.size_toArray, List.length_take]; omega
    refine wpAny_bind (listUpdate_at nk.1 rfl ?_ (Nat.le_trans hsz (by rw [sizeLine_eq]; omega)) (Nat.le_trans (Nat.le_of_eq (Array.size_push ..)) (by rw [sizeLine_eq]; omega)))
    refine wpAny_pure ⟨rfl, _, _, c2, rfl, kas_fr F2 s1 nk.2.1 nk.2.2, fun p hp => ?_⟩
    rcases List.mem_cons.mp hp with rfl | hp
    · rw [← ea]; exact ⟨hc2, nk.2⟩
    · rcases List.mem_cons.mp hp with rfl | hp
      · exact ⟨(s1.2 a hka.symm).trans na.1, na.2⟩
      · exact kas_news (fun q hq => N2 q (.tail _ (.tail _ hq))) s1 hnk p hp
  case done =>
    rintro s' ⟨h', tk, c, rfl, F', N'⟩
    rw [show vs.take (0 + vs.length) = vs from List.take_of_length_le (by omega)] at N'
    have nk := N' _ (.head _)
    try dsimp only
    refine wpAny_bind (listItems_at nk.1 rfl ?_)
    exact key_end F' N' hka hnk hna hz hstr hinj hlt fun h3 out c hok F3 N3 => h h3 tk out c hok F3 N3
theorem key_sort {f : Value} {n : Nat} (F : Fr h₀ L s.heap m) (N : News h₀ L s.heap news) (ho : s.heap.get? a = some (seqObj "list" vs.toArray n)) (haL : a ≠ L) (ha0 : h₀.get? a = none) (hna : ∀ p ∈ news, p.1 ≠ a)
    (hz : vs.length < 64) (hstr : ∀ v ∈ vs, ∃ x t, v = .str x t) (hinj : ∀ i j, i < vs.length → j < vs.length → K i = K j → i = j)
    (hlt : ∀ i j x y t u, vs[i]? = some (.str x t) → vs[j]? = some (.str y u) → decide (x.cps.toList < y.cps.toList) = decide (K i < K j))
    (turn : ∀ v ∈ vs, ∀ (h : Heap) (tk : Nat) (nw : List (Addr × Obj)), Fr h₀ L h m → News h₀ L h nw → wpAny (model prog w) A (call f [v]) (KeyBack h₀ L m nw v { s with heap := h, toks := tk }) (fun _ _ => False) { s with heap := h, toks := tk })
    (h : ∀ h' tk out c, OutOk K vs out → Fr h₀ L h' m → News h₀ L h' ((a, seqObj "list" (List.toArray out) c) :: news) → P (.done (.ret .none)) { s with heap := h', toks := tk }) :
    wpAny (model prog w) A (ksk_tree a f false) P E s := by
  have ha : a < s.heap.objs.size := Heap.lt_size ho
  have s1 := Heap.SameBut.update s.heap a (Obj.mapSeq fun _ => (#[] : Array Value))
  obtain ⟨e1, ho1⟩ : ∃ e1, (s.heap.update a (Obj.mapSeq fun _ => (#[] : Array Value))).get? a = some (seqObj "list" #[] e1) := ⟨_, get?_update_seq ho fun _ => #[]⟩
  have F1 := kas_fr F s1 haL ha0
  have N1 := kas_news N s1 hna
  have hkS : ((s.heap.update a (Obj.mapSeq fun _ => (#[] : Array Value))).push (seqObj "tuple" vs.toArray 0)).objs.size = s.heap.objs.size + 1 := by rw [size_push', Heap.size_update]
  have hLk : L < ((s.heap.update a (Obj.mapSeq fun _ => (#[] : Array Value))).push (seqObj "tuple" vs.toArray 0)).objs.size := (F1.push _).ns.lt
  unfold ksk_tree
  refine wpAny_bind (listItems_at ho rfl ?_)
  refine wpAny_bind (listUpdate_at ho rfl ?_ (by rw [List.size_toArray, sizeLine_eq]; omega) (Nat.zero_le _))
  refine wpAny_bind (seqEpoch_at ho1 rfl ?_)
  refine wpAny_bind (wpAny_newTuple ?_ (by show vs.length ≤ _; rw [sizeLine_eq]; omega))
  refine wpAny_bind (wpAny_newList ?_ (Nat.zero_le _))
  refine wpAny_holding ?_
  refine key_rest (s := { s with heap := ((s.heap.update a (Obj.mapSeq fun _ => (#[] : Array Value))).push (seqObj "tuple" vs.toArray 0)).push (seqObj "list" #[] 0) }) (kS := ((s.heap.update a (Obj.mapSeq fun _ => (#[] : Array Value))).push (seqObj "tuple" vs.toArray 0)).objs.size)
    ((F1.push _).push _) (fun p hp => ?_) (by rw [hkS]; exact Nat.ne_of_gt (Nat.lt_succ_of_lt ha)) (fun p hp => by rw [hkS]; exact Nat.ne_of_lt (Nat.lt_succ_of_lt (Heap.lt_size (N p hp).1))) hna hz hstr hinj hlt turn h
  rcases List.mem_cons.mp hp with rfl | hp
  · exact ⟨Heap.get?_push_size _ rfl, Nat.ne_of_gt hLk, Heap.get?_none_of_le (Nat.le_trans F.above (Nat.le_of_lt hLk))⟩
  · rcases List.mem_cons.mp hp with rfl | hp
    · exact ⟨Heap.get?_push_of_some _ (Heap.get?_push_of_some _ ho1), haL, ha0⟩
    · exact ⟨Heap.get?_push_of_some _ (Heap.get?_push_of_some _ (N1 p hp).1), (N1 p hp).2⟩
theorem key_sorted {l fa : Addr} {c : Nat} {Q : Value → Shared → Prop} (F : Fr h₀ L s.heap m) (N : News h₀ L s.heap news) (hl : (l, listOf vs.toArray c) ∈ news)
    (hz : vs.length < 64) (hstr : ∀ v ∈ vs, ∃ x t, v = .str x t) (hinj : ∀ i j, i < vs.length → j < vs.length → K i = K j → i = j)
    (hlt : ∀ i j x y t u, vs[i]? = some (.str x t) → vs[j]? = some (.str y u) → decide (x.cps.toList < y.cps.toList) = decide (K i < K j))
    (turn : ∀ v ∈ vs, ∀ (h : Heap) (tk : Nat) (nw : List (Addr × Obj)), Fr h₀ L h m → News h₀ L h nw → wpAny (model prog w) A.in1.in1 (call (.ref fa) [v]) (KeyBack h₀ L m nw v { s with heap := h, toks := tk }) (fun _ _ => False) { s with heap := h, toks := tk })
    (h : ∀ D h' tk out c, OutOk K vs out → Fr h₀ L h' m → News h₀ L h' ((D, listOf (List.toArray out) c) :: news) → (∀ q ∈ news, q.1 < D) → Q (.ref D) { s with heap := h', toks := tk }) :
    wpAny (model prog w) A (call (.builtin "sorted") [.ref l] [(Str.ofString "key", .ref fa)]) Q E s := by
  have hls := PySem.IsL.isList (N _ hl).1
  refine call_function_entry_kw kind_sorted plain_sorted entry_sorted (ksk_s1 _ _) ?_
  unfold Builtin.«sorted»
  refine wpAny_bind (m := checkCount "sorted" 1 1 _) (wpAny_pure ?_)
  refine wpAny_bind (collect_list hls ?_ (by rw [sizeLine_eq]; omega))
  refine wpAny_bind (wpAny_newList ?_ (by rw [sizeLine_eq]; omega))
  have hsz : ((s.heap.push (seqObj "list" #[] 0)).update s.heap.objs.size (Obj.mapSeq (· ++ vs.toArray))).objs.size = s.heap.objs.size + 1 := by
    rw [Heap.size_update, size_push']
  have hoL : (((s.heap.push (seqObj "list" #[] 0)).update s.heap.objs.size (Obj.mapSeq (· ++ vs.toArray))).push (seqObj "list" vs.toArray 0)).get? (s.heap.objs.size + 1) = some (seqObj "list" vs.toArray 0) := by
    rw [← hsz]; exact Heap.get?_push_size _ rfl
  have keep : ∀ b o, s.heap.get? b = some o → (((s.heap.push (seqObj "list" #[] 0)).update s.heap.objs.size (Obj.mapSeq (· ++ vs.toArray))).push (seqObj "list" vs.toArray 0)).get? b = some o := fun b o q => by
    have hlt : b < s.heap.objs.size := Heap.lt_size q
    rw [Heap.get?_push_ne _ _ _ (by rw [hsz]; exact Nat.ne_of_lt (Nat.lt_succ_of_lt hlt)), Heap.get?_update_ne _ _ _ _ (Nat.ne_of_lt hlt), Heap.get?_push_ne _ _ _ (Nat.ne_of_lt hlt)]
    exact q
  have hL : L < s.heap.objs.size := F.ns.lt
  show wpAny _ _ _ _ _ { s with heap := ((s.heap.push (seqObj "list" #[] 0)).update s.heap.objs.size (Obj.mapSeq (· ++ vs.toArray))).push (seqObj "list" vs.toArray 0) }
  rw [hsz]
  refine wpAny_bind (wpAny_holding (wpAny_call_entry_kw slot_list_sort ⟨_, hoL, rfl⟩ entry_list_sort ?body (ksk_l1 _ _)))
  case body =>
    show wpAny (model prog w) A.in1.in1 (Builtin.«list.sort» ⟨[.ref (s.heap.objs.size + 1)], [(Str.ofString "key", .ref fa)]⟩) _ _ _
    rw [ksk_t1]
    refine key_sort (s := { s with heap := ((s.heap.push (seqObj "list" #[] 0)).update s.heap.objs.size (Obj.mapSeq (· ++ vs.toArray))).push (seqObj "list" vs.toArray 0) })
      (F.kept keep) (N.grown keep) hoL (Nat.ne_of_gt (Nat.lt_succ_of_lt hL)) (Heap.get?_none_of_le (Nat.le_trans F.above (Nat.le_succ_of_le (Nat.le_of_lt hL))))
      (fun p hp => Nat.ne_of_lt (Nat.lt_succ_of_lt (Heap.lt_size (N p hp).1))) hz hstr hinj hlt turn fun h' tk out c hok F' N' => ⟨_, rfl, ?_⟩
    exact wpAny_pure ⟨_, rfl, h _ h' tk out c hok F' N' (fun q hq => Nat.lt_succ_of_lt (Heap.lt_size (N q hq).1))⟩
end
/-- the names of one folder, from the last on, sorted -/
theorem out_names {ins : List Nat} (hp : ins.Pairwise (· < ·)) {vs out : List Value} (hS : StrsAre vs (ins.reverse.map nm)) (h : OutOk (fun i => ins.reverse.getD i 0) vs out) : StrsAre out (ins.map nm) := by
  obtain ⟨p, hr, hI, rfl⟩ := h
  have hl : vs.length = ins.reverse.length := by rw [hS.len_eq, List.length_map]
  have hr' : p.toList.Perm (List.range vs.length) := hr
  have e1 : (p.toList.map fun i => ins.reverse.getD i 0).Perm ins := by
    refine (hr'.map fun i => ins.reverse.getD i 0).trans ?_
    have : ((List.range vs.length).map fun i => ins.reverse.getD i 0) = ins.reverse := by
      rw [hl]
      apply List.ext_getElem?
      intro i
      by_cases hi : i < ins.reverse.length
      · rw [List.getElem?_map, List.getElem?_range hi]; simp only [Option.map_some, List.getD, List.getElem?_eq_getElem hi]; rfl
      · rw [List.getElem?_eq_none (by simpa using hi), List.getElem?_eq_none (by omega)]
    rw [this]
    exact List.reverse_perm _
  have hz : p.toList.length = vs.length := by have := hr'.length_eq; simpa using this
  have e2 : (p.toList.map fun i => ins.reverse.getD i 0).Pairwise (· < ·) := by
    rw [List.pairwise_iff_getElem]
    intro i j hi hj hij
    have := hI i j hij (by simpa [hz] using hj)
    simp only [kk] at this
    simp only [List.getElem_map]
    have g : ∀ k (hk : k < p.toList.length), p.getD k 0 = p.toList[k] := fun k hk => by
      have hk' : k < p.size := by simpa using hk
      simp [Array.getD, hk']
    rw [g i (by simpa using hi), g j (by simpa using hj)] at this
    exact this
  have e3 : (p.toList.map fun i => ins.reverse.getD i 0) = ins := List.Perm.eq_of_pairwise (le := (· < ·)) (fun a b _ _ h3 h4 => absurd h3 (Nat.lt_asymm h4)) e2 hp e1
  rw [← e3, List.map_map]
  have hmem : ∀ i ∈ p.toList, i < vs.length := fun i hi => by simpa using hr'.mem_iff.mp hi
  clear e1 e2 e3 hI hr hr' hz
  generalize p.toList = ks at hmem ⊢
  induction ks with
  | nil => exact .nil
  | cons k ks ih =>
    have hk := hmem k (.head _)
    have hkr : k < ins.reverse.length := by omega
    obtain ⟨t, ht⟩ := hS.at (j := k) (y := nm (ins.reverse.getD k 0)) (by rw [List.getElem?_map, List.getElem?_eq_getElem hkr]; simp only [Option.map_some, List.getD, List.getElem?_eq_getElem hkr]; rfl)
    simp only [List.map_cons]
    have : vs.getD k .none = .str (nm (ins.reverse.getD k 0)) t := by simp only [List.getD, ht]; rfl
    rw [this]
    exact .cons _ _ (ih fun i hi => hmem i (.tail _ hi))
end Mine
end

section
open PySem PySem.W PyProof.Rows
set_option maxRecDepth 100000
set_option maxHeartbeats 4000000
namespace Mine
def insOf (qs : List (List Nat)) (pl : List Nat) : List Nat := (qs.filter fun q => q.dropLast == pl).map fun q => q.getLastD 0
theorem last_lt : ∀ a ∈ allP, ∀ b ∈ allP, a.dropLast = b.dropLast → code a < code b → a.getLastD 0 < b.getLastD 0 := by decide +kernel
theorem ins_ok {qs : List (List Nat)} (hU : qs.Pairwise fun a b => code a < code b) (hA : ∀ ds ∈ qs, ds ∈ allP) (pl : List Nat) : (insOf qs pl).Pairwise (· < ·) ∧ ∀ d ∈ insOf qs pl, d ∈ [0, 1, 2] := by
  refine ⟨?_, fun d hd => ?_⟩
  · unfold insOf
    rw [List.pairwise_map]
    refine (hU.sublist List.filter_sublist).imp_of_mem fun {a b} ha hb hc => ?_
    have ha' := List.mem_filter.mp ha
    have hb' := List.mem_filter.mp hb
    exact last_lt a (hA a ha'.1) b (hA b hb'.1) (by rw [beq_iff_eq.mp ha'.2, beq_iff_eq.mp hb'.2]) hc
  · obtain ⟨q, hq, rfl⟩ := List.mem_map.mp hd
    exact path_last q (hA q (List.mem_filter.mp hq).1)
def subs : List (List Nat) := [[], [0], [1], [2], [0, 1], [0, 2], [1, 2], [0, 1, 2]]
theorem subs_of : ∀ {ins : List Nat}, ins.Pairwise (· < ·) → (∀ d ∈ ins, d ∈ [0, 1, 2]) → ins ∈ subs
  | [], _, _ => by decide
  | [a], _, h => (by decide : ∀ a ∈ [0, 1, 2], [a] ∈ subs) a (h a (.head _))
  | [a, b], hp, h => (by decide : ∀ a ∈ [0, 1, 2], ∀ b ∈ [0, 1, 2], a < b → [a, b] ∈ subs) a (h a (.head _)) b (h b (.tail _ (.head _))) ((List.pairwise_cons.mp hp).1 b (.head _))
  | [a, b, c], hp, h => (by decide : ∀ a ∈ [0, 1, 2], ∀ b ∈ [0, 1, 2], ∀ c ∈ [0, 1, 2], a < b → b < c → [a, b, c] ∈ subs) a (h a (.head _)) b (h b (.tail _ (.head _))) c (h c (.tail _ (.tail _ (.head _))))
      ((List.pairwise_cons.mp hp).1 b (.head _)) ((List.pairwise_cons.mp (List.pairwise_cons.mp hp).2).1 c (.head _))
  | a :: b :: c :: d :: r, hp, h => by
    exfalso
    have h1 := (List.pairwise_cons.mp hp).1 b (.head _)
    have h2 := (List.pairwise_cons.mp (List.pairwise_cons.mp hp).2).1 c (.head _)
    have h3 := (List.pairwise_cons.mp (List.pairwise_cons.mp (List.pairwise_cons.mp hp).2).2).1 d (.head _)
    have h4 := h d (.tail _ (.tail _ (.tail _ (.head _))))
    simp only [List.mem_cons, List.not_mem_nil, or_false] at h4
    omega
def cmpN (a b : Nat) : Int := (if b < a then 1 else 0) - (if a < b then 1 else 0)
def rowN (n k : Nat) : List Int := List.replicate k 1 ++ [0] ++ List.replicate (n - 1 - k) (-1)
theorem rows_eq : ∀ ins ∈ subs, (ins.flatMap fun a => ins.map (cmpN a)) = (List.range ins.length).flatMap (rowN ins.length) := by decide
theorem subs_len : ∀ ins ∈ subs, ins.length ≤ 3 := by decide
theorem nm_lt : ∀ a ∈ [0, 1, 2], ∀ b ∈ [0, 1, 2], decide ((nm a).cps.toList < (nm b).cps.toList) = decide (a < b) := by decide
theorem ins_yes {qs : List (List Nat)} {pl ds : List Nat} {i : Nat} (h : qs[i]? = some ds) (hd : ds.dropLast = pl) : insOf (qs.take (i + 1)) pl = insOf (qs.take i) pl ++ [ds.getLastD 0] := by
  unfold insOf
  rw [List.take_add_one, h, List.filter_append, List.map_append]
  simp [hd]
theorem ins_no {qs : List (List Nat)} {pl ds : List Nat} {i : Nat} (h : qs[i]? = some ds) (hd : ds.dropLast ≠ pl) : insOf (qs.take (i + 1)) pl = insOf (qs.take i) pl := by
  unfold insOf
  rw [List.take_add_one, h, List.filter_append, List.map_append]
  simp [hd]
theorem row_flat {p q n k : Nat} (hp : p = k) (hq : q = n - 1 - k) : (List.replicate p [(1 : Int)]).flatten ++ [0] ++ (List.replicate q [(-1 : Int)]).flatten = rowN n k := by
  subst hp hq
  simp [rowN]
theorem row_len {n k : Nat} (h : k < n) : (rowN n k).length = n := by simp [rowN]; omega
theorem rows_len {n : Nat} : ∀ i, i ≤ n → ((List.range i).flatMap (rowN n)).length = i * n
  | 0, _ => by simp
  | i + 1, h => by rw [List.range_succ, List.flatMap_append, List.length_append, rows_len i (by exact Nat.le_of_lt (by assumption)), List.flatMap_cons, List.flatMap_nil, List.append_nil, row_len (by assumption), Nat.succ_mul]
theorem flat_len (f : Nat → Nat → Int) (ins : List Nat) : ∀ l : List Nat, (l.flatMap fun a => ins.map (f a)).length = l.length * ins.length
  | [] => by simp
  | a :: l => by rw [List.flatMap_cons, List.length_append, List.length_map, flat_len f ins l, List.length_cons, Nat.succ_mul]; omega
theorem path_nil : pathS [] = Str.ofString "/" := by decide
end Mine
end

section
open PySem PySem.W PyProof.Rows PySem.Spec
set_option maxRecDepth 100000
set_option maxHeartbeats 4000000
set_option Elab.async false
namespace Mine
section
variable {prog : Program} {w : World} {A : Around} {E : Value → Shared → Prop} {s : Shared} {h₀ : Heap} {L l : Addr} {m : Str → Option Value} {news : List (Addr × Obj)} {value slice : PySem.Expr} {vs : List Value} {n : Nat} {Q : Value → Shared → Prop}
theorem rev_at {u : Tok} {ops : List Value} (F : Fr h₀ L s.heap m) (N : News h₀ L s.heap news) (hl : s.heap.get? l = some (listOf vs.toArray n)) (hz : vs.length < 100)
    (h : ∀ D h', Fr h₀ L h' m → News h₀ L h' ((D, listOf (List.toArray vs.reverse) 0) :: news) → (∀ p ∈ news, p.1 < D) → Q (.ref D) { s with heap := h' })
    (hs : subscripted slice false (.ref l) (.ref s.heap.objs.size) = operate ops (getItem (.ref l) (.ref s.heap.objs.size))) (ht : ∀ r, letTemporaryGo value (.ref l) r = pure () := by intro _; rfl) :
    wpAny (model prog w) A (subscriptTail value slice (.ref l) (.ref s.heap.objs.size)) Q E { s with heap := s.heap.push { cls := .type "slice", data := .fields #[.none, .none, .int (-1) u] } } :=
  krv_lit (its := vs.toArray) (zs := vs.reverse) F N (PySem.IsL.isList hl) (IsPart.int _ _) rfl (fun D h' F' N' l1 => h D h' F' N' l1) hs ht (by rw [sizeLine_eq]; simp; omega)
end
theorem strs_rev : ∀ {vs : List Value} {ss : List Str}, StrsAre vs ss → StrsAre vs.reverse ss.reverse
  | _, _, .nil => .nil
  | _, _, .cons s t h => by
    rw [List.reverse_cons, List.reverse_cons]
    exact (strs_rev h).append' (.cons _ _ .nil)
theorem names_facts {ins : List Nat} (hp : ins.Pairwise (· < ·)) (h3 : ∀ d ∈ ins, d ∈ [0, 1, 2]) {vs : List Value} (hS : StrsAre vs (ins.reverse.map nm)) :
    (∀ v ∈ vs, ∃ x t, v = .str x t) ∧ (∀ i j, i < vs.length → j < vs.length → ins.reverse.getD i 0 = ins.reverse.getD j 0 → i = j) ∧
    ∀ (i j : Nat) x y t u, vs[i]? = some (.str x t) → vs[j]? = some (.str y u) → decide (x.cps.toList < y.cps.toList) = decide (ins.reverse.getD i 0 < ins.reverse.getD j 0) := by
  have hl : vs.length = ins.reverse.length := by rw [hS.len_eq, List.length_map]
  have gd : ∀ i (hi : i < ins.reverse.length), ins.reverse.getD i 0 = ins.reverse[i] := fun i hi => by simp only [List.getD, List.getElem?_eq_getElem hi]; rfl
  refine ⟨fun v hv => hS.all v hv, fun i j hi hj e => ?_, fun i j x y t u hi hj => ?_⟩
  · rw [gd i (by omega), gd j (by omega)] at e
    have hr : ins.reverse.Pairwise (fun a b => b < a) := List.pairwise_reverse.mpr hp
    have hg := List.pairwise_iff_getElem.mp hr
    rcases Nat.lt_trichotomy i j with q | q | q
    · have := hg i j (by omega) (by omega) q
      omega
    · exact q
    · have := hg j i (by omega) (by omega) q
      omega
  · have item : ∀ (k : Nat) z r, vs[k]? = some (.str z r) → z = nm (ins.reverse.getD k 0) ∧ ins.reverse.getD k 0 ∈ [0, 1, 2] := fun k z r hk => by
      obtain ⟨z', r', e, hz⟩ := hS.item k _ hk
      injection e with e1 e2
      subst e1
      rw [List.getElem?_map] at hz
      have hkl : k < ins.reverse.length := by have := (List.getElem?_eq_some_iff.mp hk).1; omega
      rw [List.getElem?_eq_getElem hkl] at hz
      rw [gd k hkl]
      exact ⟨(Option.some.inj hz).symm, h3 _ (List.mem_reverse.mp (List.getElem_mem hkl))⟩
    obtain ⟨e1, m1⟩ := item i x t hi
    obtain ⟨e2, m2⟩ := item j y u hj
    rw [e1, e2]
    exact nm_lt _ m1 _ m2
end Mine
end

section
open PySem PySem.W PyProof.Rows
set_option maxRecDepth 100000
set_option maxHeartbeats 8000000
namespace Mine
/-! the head: the run on a tree of objects, by the kit's quick twins -/
noncomputable def topRunT (den : Code → Sem Fin) (st : (Code → Sem Fin) → Program → World → SharedT → Thread → Option (SharedT × Thread)) (ok : Nat → Option Value → Thread → Bool) (p : Program) (w : World) (n₀ : Nat) (ann : Option Value) : Nat → SharedT → Thread → Option SharedT
  | 0, _, _ => none
  | n + 1, s, t => match through t with
    | true => some s
    | false => match ok n₀ ann t with
      | false => none
      | true => match st den p w s t with
        | some (s', t') => topRunT den st ok p w n₀ ann n s' t'
        | none => none
noncomputable def treeOf : Nat → BT → List Obj → BT
  | _, t, [] => t
  | n, t, o :: l => treeOf (n + 1) (t.ins n o) l
noncomputable def boot0 (P : Params) (os : OsState) : SharedT := ⟨treeOf 0 .nil (boot_heap P).objs.toList, (boot_heap P).objs.size, (boot_heap P).life, Array.mk [], boot_drawn, boot_toks, os⟩
theorem topRunT_of {tb : String → Option Builtin} {p : Program} {w : World} {n₀ : Nat} {ann : Option Value} : ∀ {n : Nat} {s r : SharedT} {t : Thread}, topRunT (denote tb) stepT stepOk p w n₀ ann n s t = some r → topRun tb p w n₀ ann n s.abs t = some r.abs
  | 0, _, _, _, h => by cases h
  | n + 1, s, r, t, h => by
    unfold topRunT at h
    unfold topRun
    cases ht : through t with
    | true => rw [ht] at h; cases h; rfl
    | false =>
      rw [ht] at h
      cases hk : stepOk n₀ ann t with
      | false => rw [hk] at h; cases h
      | true =>
        rw [hk] at h
        cases hs : stepT (denote tb) p w s t with
        | none => rw [hs] at h; cases h
        | some x => obtain ⟨s₂, t₂⟩ := x; rw [hs] at h; rw [stepT_spec hs]; exact topRunT_of h
theorem boot_abs (P : Params) (os : OsState) : (boot0 P os).abs = ⟨boot_heap P, Array.mk [], boot_drawn, boot_toks, os⟩ := by kernel_rfl
theorem boot_isNs (P : Params) : ((boot_heap P).isNs mainGlobals && (Array.mk [] : Array GenState).size == 0) = true := by kernel_rfl
theorem left_fast {p q : Program} {loose : List Str} {Xt : Shared → Bool} {α : Type} {Yf : Shared → α} {Ya : World → α} {N : Nat} {g0 : Bool} (e : opening p = plainProg p.main.scope.names) (hN : Nat.ble 600 N = true) (f : ∀ s, fenceModules? p s = some s)
    (h : ∀ (w : World) (os : OsState), (topRunT (PySem.W.Fast.tw11892475500146522536 PySem.W.Fast.tw14364793385576792824) PySem.W.Fast.tw10156331382660048174 PySem.W.Fast.tw6613529449190102663 p w (boot_heap w.params).objs.size ((boot_heap w.params).nsMap mainGlobals "__annotations__") N (boot0 w.params os) (topStub p)).map (fun r => (staticsOk (importedModules p.main.body) (boot_heap w.params) r.abs.heap && namesBound p r.abs.heap && gensDone r.abs && laidKept (boot_heap w.params) r.abs.heap, PySem.W.Fast.tw4187177175401517315 q loose (importedModules p.main.body) Xt g0 r.abs, Yf r.abs)) = some (true, openGood q loose, Ya w)) : LeftO p q loose Xt Yf Ya N g0 := fun w => by
  obtain ⟨⟨h1, gs, d, k, os⟩, e1, e'⟩ := Option.map_eq_some_iff.mp (boot_open e hN f w)
  obtain ⟨rfl, rfl, rfl, rfl⟩ : h1 = boot_heap w.params ∧ gs = Array.mk [] ∧ d = boot_drawn ∧ k = boot_toks := by simpa only [Prod.mk.injEq] using e'
  have h := h w os
  rw [← PySem.W.Fast.te11892475500146522536, ← PySem.W.Fast.te14364793385576792824, ← PySem.W.Fast.te10156331382660048174, ← PySem.W.Fast.te6613529449190102663, ← PySem.W.Fast.te4187177175401517315] at h
  obtain ⟨r, hr, hv⟩ := Option.map_eq_some_iff.mp h
  have a := topRunT_of hr
  rw [boot_abs] at a
  have hv1 := congrArg Prod.fst hv
  have hv2 := congrArg Prod.snd hv
  dsimp only at hv1 hv2
  unfold openEnds
  rw [e1]
  show (topFrom treeTable p w N _).map _ = _
  unfold topFrom
  dsimp only
  rw [boot_isNs w.params, a]
  show ((match staticsOk (importedModules p.main.body) (boot_heap w.params) r.abs.heap && namesBound p r.abs.heap && gensDone r.abs && laidKept (boot_heap w.params) r.abs.heap with | true => some r.abs | false => none) : Option Shared).map _ = _
  rw [hv1]
  exact congrArg some hv2
/-- the text's statements that the walk looks at -/
def view : Program := { PySem.Challenge.pw_il0111_01 with main := { PySem.Challenge.pw_il0111_01.main with body := [0, 2, 3, 4, 6, 7, 8, 9, 11, 13, 15, 16, 18, 20, 22, 23, 24, 25, 26, 28, 29, 30].filterMap fun i : Nat => PySem.Challenge.pw_il0111_01.main.body[i]? } }
local macro_rules | `(tactic| o_head $H) => `(tactic| (
  refine holds_open (q := Mine.view) (loose := []) (Xt := fun s => xlAt Mine.view [] s && recOk (RowW.records (OpenRow.toRowW (OpenLaw.row PySem.Challenge.rw_il0111_01))) s) (XP := XL Mine.view []) (Yf := Hook.obs $H) (Ya := Hook.val $H) (YP := Hook.says $H) (N := 2546) ?hl (Hook.of $H) (Hook.keeps $H) (fun s e => xl_of s (Bool.and_eq_true_iff.mp e).1) XL.keeps (by rfl) (by rfl) (by rfl) (fun s e => recFacts_of (Bool.and_eq_true_iff.mp e).2) (by rfl) (by first | assumption | decide +kernel) (by decide +kernel) ⟨rfl, rfl, rfl, rfl, rfl, by decide +kernel⟩ ?hw ?hc
  (case hl => exact left_fast (by kernel_rfl) (by kernel_rfl) (fun _ => by kernel_rfl) (fun w os => by kernel_rfl))
  all_goals (rename_i said0; clear said0)))
open_top hd for PySem.Challenge.rw_il0111_01
/-- a proposition put by -/
structure Hide (P : Prop) : Prop where
  out : P
/-- G is shown but for C, which the walk itself fills in: its goal at a cut -/
structure Cut (G : Prop) where
  C : Prop
  h : Hide C → G
structure Cut2 (G : Prop) where
  C : Prop
  D : Prop
  h : Hide C → Hide D → G
end Mine
end

section
open PySem PySem.W PyProof.Rows
set_option maxRecDepth 100000
set_option maxHeartbeats 100000000
namespace Mine
theorem z1 {M A a b c d e Q E s} (h : wpAny M A (exec (Stmt.While a b c d) e) Q E s) : wpAny M A (exec (Stmt.While a b c d) e) Q E s := h
theorem z2 {M A a b c d e f Q E s} (h : wpAny M A (exec (Stmt.For a b c d e) f) Q E s) : wpAny M A (exec (Stmt.For a b c d e) f) Q E s := h
theorem z3 {M A a b c d e Q E s} (h : wpAny M A (subscriptTail a b (Value.ref c) (Value.int d e)) Q E s) : wpAny M A (subscriptTail a b (Value.ref c) (Value.int d e)) Q E s := h
theorem z4 {M A c d e f Q E s} (h : wpAny M A (setItem (Value.ref c) (Value.int d e) f) Q E s) : wpAny M A (setItem (Value.ref c) (Value.int d e) f) Q E s := h
theorem z5 {M A a b c Q E s} (h : wpAny M A (call (Value.ref a) b c) Q E s) : wpAny M A (call (Value.ref a) b c) Q E s := h
theorem z6 {M A a b Q E s} (h : wpAny M A (call (Value.builtin "len") [Value.ref a] b) Q E s) : wpAny M A (call (Value.builtin "len") [Value.ref a] b) Q E s := h
theorem z7 {M A a b c Q E s} (h : wpAny M A (call (Value.builtin "str.join") [a, Value.ref b] c) Q E s) : wpAny M A (call (Value.builtin "str.join") [a, Value.ref b] c) Q E s := h
theorem z8 {M A a b Q E s} (h : wpAny M A (compareOp CmpOp.NotEq (Value.ref a) (Value.ref b)) Q E s) : wpAny M A (compareOp CmpOp.NotEq (Value.ref a) (Value.ref b)) Q E s := h
theorem z9 {M A a b Q E s} (h : wpAny M A (call (Value.type "enumerate") a b) Q E s) : wpAny M A (call (Value.type "enumerate") a b) Q E s := h
theorem z10 {a b c d e f g h i j k l m n} (z : LCg.CompSrc a b c d e f g h i j k l m n) : LCg.CompSrc a b c d e f g h i j k l m n := z
theorem z11 {a b c d e f g h i j k l m n} (z : LCg.CompEnd a b c d e f g h i j k l m n) : LCg.CompEnd a b c d e f g h i j k l m n := z
theorem z12 {a b c d e f g h i j k l m n o} (z : LCt.CompSrcT a b c d e f g h i j k l m n o) : LCt.CompSrcT a b c d e f g h i j k l m n o := z
theorem z13 {M A a b c d e f g Q E s} (h : wpAny M A (exec (Stmt.Assign a (PySem.Expr.ListComp b c d e) f) g) Q E s) : wpAny M A (exec (Stmt.Assign a (PySem.Expr.ListComp b c d e) f) g) Q E s := h
theorem z14 {M A b c d e g Q E s} (h : wpAny M A (eval (PySem.Expr.ListComp b c d e) g) Q E s) : wpAny M A (eval (PySem.Expr.ListComp b c d e) g) Q E s := h
theorem z15 {M A a b c d Q E s} (h : wpAny M A (subscriptTail a b (Value.ref c) (Value.ref d)) Q E s) : wpAny M A (subscriptTail a b (Value.ref c) (Value.ref d)) Q E s := h
theorem z16 {M A a b Q E s} (h : wpAny M A (compareOp CmpOp.NotIn a (Value.ref b)) Q E s) : wpAny M A (compareOp CmpOp.NotIn a (Value.ref b)) Q E s := h
theorem z17 {M A a b Q E s} (h : wpAny M A (compareOp CmpOp.Lt a b) Q E s) : wpAny M A (compareOp CmpOp.Lt a b) Q E s := h
theorem z18 {M A a b c d Q E s} (h : wpAny M A (compareOp CmpOp.Lt (Value.int a b) (Value.int c d)) Q E s) : wpAny M A (compareOp CmpOp.Lt (Value.int a b) (Value.int c d)) Q E s := h
end Mine
set_option compiler.extract_closed false
local macro_rules | `(tactic| tb_start) => `(tactic| repeat' (first
  | exact fun _ h => h
  | exact Mine.sub_nil
  | refine Mine.sub_cons ?_ ?_
  | refine Mine.sub_app ?_ ?_
  | k_mem
  | assumption
  | refine List.Mem.tail _ ?_
  | refine Mine.sub_tl ?_
  | (refine List.mem_append_right _ ?_; tb_start; done)
  | (refine List.mem_append_left _ ?_; tb_start; done)
  | (refine Mine.sub_r ?_; tb_start; done)
  | (refine Mine.sub_l ?_; tb_start; done)))

open PySem PySem.W PyProof.Rows
set_option maxRecDepth 100000
set_option maxHeartbeats 4000000
set_option Elab.async false

namespace Mine
theorem siftdown_c {prog : Program} {w : World} {p : Program} {loose : List Str} {mean : ExcName → Option Value} {mg mb : Str → Option Value}
   {dp un : Nat} {gd : Option (List Code)} {env : Env} {A₀ : Around} {outer : List Env} {base h₀ : Heap} {L : Addr} {m : Str → Option Value} {s : Shared} {Q E : Value → Shared → Prop}
   {hp : Addr} {rest : List (Addr × Obj)} {vs : List Value} {n : Nat} {pos : Nat} {ip : Int} {t1 t2 : Tok} {κ : Value → Nat}
   (B : Below A₀ base outer h₀) (F : Fr h₀ L s.heap m) (X : (hd.heap_39 w.params).In h₀) (T : Top p loose mean mg mb h₀)
   (hf : env.frame = some L) (hke : env.scope.kind = .function) (hd : dp < 900) (hu : un < 900)
   (N : News h₀ L s.heap ((hp, listOf vs.toArray n) :: rest)) (hoff : ∀ p ∈ rest, p.1 ≠ hp) (hz : vs.length < 100) (hg : ∀ v ∈ vs, Good rest κ v) (hip : ip = (pos : Nat)) (hpos : pos < vs.length) (hU : UpOk (kf κ vs) vs.length pos)
   (hQ : ∀ (h' : Heap) (tk' : Nat) (vs' : List Value) (n' : Nat), Fr h₀ L h' m → News h₀ L h' ((hp, listOf vs'.toArray n') :: rest) → vs'.Perm vs → HeapOk κ vs' → Q .none { s with heap := h', toks := tk' }) :
   wpAny (model prog w) { handled := none, depth := dp, frames := some (env :: outer), guards := gd, units := un } (call (.ref 63) [.ref hp, .int 0 t1, .int ip t2]) Q E s := by
  w_top off
  subst hip
  refine wpAny_call ?_
  k_dflt (refine' code_def ?k1 ?k2 ?k3 ?k4 ?k5 ?kA ?kF ?kK ?k6 ?k7 ?k8 ?k9 ?kB ?_ ?c2 ?c3 ?c4 ?c5; (case kA => exact rfl); (case kF => first | exact rfl | assumption); (case kK => first | exact rfl | assumption); (case k1 => k_asm); (case k2 => k_asm); (case k3 => k_asm); (case k4 => k_asm); (case k5 => k_asm); (case k6 => k_is); (case k7 => k_is); (case k8 => ktr_room); (case k9 => exact BindsTo.of_eq rfl); (case c5 => decide); (case kB => exact locs rfl); (case c2 => exact rfl); (case c3 => exact rfl); (case c4 => exact rfl); k_whole; intro g' L' h' FG' F' N' B' X' T'; (try dsimp only); (try k_fold))
  obtain ⟨v0, hv0⟩ : ∃ v, vs[pos]? = some v := ⟨_, List.getElem?_eq_getElem hpos⟩
  (repeat' (first | ((fail_if_success (with_reducible first | refine Mine.z1 ?_ | refine Mine.z2 ?_ | refine Mine.z3 ?_ | refine Mine.z4 ?_ | refine Mine.z5 ?_ | refine Mine.z6 ?_ | refine Mine.z7 ?_ | refine Mine.z8 ?_ | refine Mine.z9 ?_ | refine Mine.z10 ?_ | refine Mine.z11 ?_ | refine Mine.z12 ?_ | refine Mine.z13 ?_ | refine Mine.z14 ?_ | refine Mine.z15 ?_ | refine Mine.z16 ?_)); (first | (with_reducible refine Mine.z18 ?_) | (fail_if_success (with_reducible refine Mine.z17 ?_))); (first | (k_unfold; (try dsimp only)) | walk1 | (dsimp only; walk1))) | fail "no step"))
  refine item_at (News.get (by k_asm) (by k_mem)) rfl hv0 hz ?_
  (repeat' (first | ((fail_if_success (with_reducible first | refine Mine.z1 ?_ | refine Mine.z2 ?_ | refine Mine.z3 ?_ | refine Mine.z4 ?_ | refine Mine.z5 ?_ | refine Mine.z6 ?_ | refine Mine.z7 ?_ | refine Mine.z8 ?_ | refine Mine.z9 ?_ | refine Mine.z10 ?_ | refine Mine.z11 ?_ | refine Mine.z12 ?_ | refine Mine.z13 ?_ | refine Mine.z14 ?_ | refine Mine.z15 ?_ | refine Mine.z16 ?_)); (first | (with_reducible refine Mine.z18 ?_) | (fail_if_success (with_reducible refine Mine.z17 ?_))); (first | (k_unfold; (try dsimp only)) | walk1 | (dsimp only; walk1))) | fail "no step"))
  rename_i F1 N1
  refine While_inv2 (fun k m₁ news₁ => ∃ (i : Int) (t : Tok) (us : List Value) (c : Nat), i = (k : Nat) ∧ m₁ "heap" = some (.ref hp) ∧ m₁ "startpos" = some (.int 0 t1) ∧ m₁ "pos" = some (.int i t) ∧ m₁ "newitem" = some v0
     ∧ news₁ = (hp, listOf us.toArray c) :: rest ∧ us.length = vs.length ∧ k < vs.length ∧ (us.set k v0).Perm vs ∧ UpOk (kf κ (us.set k v0)) vs.length k) (n₀ := pos) F1 N1 ?_ ?_ ?_
  · exact ⟨pos, t2, vs, n, rfl, rfl, rfl, rfl, rfl, rfl, rfl, hpos, by rw [set_self hv0], by rw [set_self hv0]; exact hU⟩
  · rintro k m₁ news₁ h₁ tk₁ F1 N1 ⟨i, t, us, c, hi, e1, e2, e3, e4, rfl, hlen, hk, hP, hU1⟩
    replace F1 := fr_knowns [("heap", .ref hp), ("startpos", .int 0 t1), ("pos", .int i t), ("newitem", v0)] F1 (known_cons e1 (known_cons e2 (known_cons e3 (known_cons e4 known_nil))))
    (repeat' (first | ((fail_if_success (with_reducible first | refine Mine.z1 ?_ | refine Mine.z2 ?_ | refine Mine.z3 ?_ | refine Mine.z4 ?_ | refine Mine.z5 ?_ | refine Mine.z6 ?_ | refine Mine.z7 ?_ | refine Mine.z8 ?_ | refine Mine.z9 ?_ | refine Mine.z10 ?_ | refine Mine.z11 ?_ | refine Mine.z12 ?_ | refine Mine.z13 ?_ | refine Mine.z14 ?_ | refine Mine.z15 ?_ | refine Mine.z16 ?_)); (first | (with_reducible refine Mine.z18 ?_) | (fail_if_success (with_reducible refine Mine.z17 ?_))); (first | (k_unfold; (try dsimp only)) | walk1 | (dsimp only; walk1))) | fail "no step"))
    · rename_i hpos1 _ F2 N2
      have hk0 : 0 < k := by first | grind | omega
      have hkp : (k - 1) / 2 < us.length := by first | grind | omega
      obtain ⟨v1, hv1⟩ : ∃ v, us[(k - 1) / 2]? = some v := ⟨_, List.getElem?_eq_getElem hkp⟩
      subst hi
      refine item_at (News.get (by k_asm) (by k_mem)) (par_of hk0) hv1 (by first | grind | omega) ?_
      (repeat' (first | ((fail_if_success (with_reducible first | refine Mine.z1 ?_ | refine Mine.z2 ?_ | refine Mine.z3 ?_ | refine Mine.z4 ?_ | refine Mine.z5 ?_ | refine Mine.z6 ?_ | refine Mine.z7 ?_ | refine Mine.z8 ?_ | refine Mine.z9 ?_ | refine Mine.z10 ?_ | refine Mine.z11 ?_ | refine Mine.z12 ?_ | refine Mine.z13 ?_ | refine Mine.z14 ?_ | refine Mine.z15 ?_ | refine Mine.z16 ?_)); (first | (with_reducible refine Mine.z18 ?_) | (fail_if_success (with_reducible refine Mine.z17 ?_))); (first | (k_unfold; (try dsimp only)) | walk1 | (dsimp only; walk1))) | fail "no step"))
      have hG0 : Good rest κ v0 := hg _ (List.mem_of_getElem? hv0)
      have hG1 : Good rest κ v1 := by
        refine hg _ (hP.mem_iff.mp ?_)
        refine List.mem_of_getElem? (i := (k - 1) / 2) ?_
        rw [List.getElem?_set_ne (by first | grind | omega)]; exact hv1
      refine good_lt (rest := rest) (by k_asm) (fun p h => .tail _ h) hG0 hG1 (by ktr_units) ?_
      (repeat' (first | ((fail_if_success (with_reducible first | refine Mine.z1 ?_ | refine Mine.z2 ?_ | refine Mine.z3 ?_ | refine Mine.z4 ?_ | refine Mine.z5 ?_ | refine Mine.z6 ?_ | refine Mine.z7 ?_ | refine Mine.z8 ?_ | refine Mine.z9 ?_ | refine Mine.z10 ?_ | refine Mine.z11 ?_ | refine Mine.z12 ?_ | refine Mine.z13 ?_ | refine Mine.z14 ?_ | refine Mine.z15 ?_ | refine Mine.z16 ?_)); (first | (with_reducible refine Mine.z18 ?_) | (fail_if_success (with_reducible refine Mine.z17 ?_))); (first | (k_unfold; (try dsimp only)) | walk1 | (dsimp only; walk1))) | fail "no step"))
      · rename_i F3 N3 hlt2
        refine set_at F3 N3 hoff rfl (by first | grind | omega) (by first | grind | omega) fun h4 F4 N4 => ?_
        (repeat' (first | ((fail_if_success (with_reducible first | refine Mine.z1 ?_ | refine Mine.z2 ?_ | refine Mine.z3 ?_ | refine Mine.z4 ?_ | refine Mine.z5 ?_ | refine Mine.z6 ?_ | refine Mine.z7 ?_ | refine Mine.z8 ?_ | refine Mine.z9 ?_ | refine Mine.z10 ?_ | refine Mine.z11 ?_ | refine Mine.z12 ?_ | refine Mine.z13 ?_ | refine Mine.z14 ?_ | refine Mine.z15 ?_ | refine Mine.z16 ?_)); (first | (with_reducible refine Mine.z18 ?_) | (fail_if_success (with_reducible refine Mine.z17 ?_))); (first | (k_unfold; (try dsimp only)) | walk1 | (dsimp only; walk1))) | fail "no step"))
        dsimp only [WhileStep2]
        refine ⟨_, _, _, _, (k - 1) / 2, rfl, by assumption, by assumption, by first | grind | omega, _, _, us.set k v1, c, par_of hk0, rfl, rfl, rfl, rfl, rfl, by simpa using hlen, by first | grind | omega, ?_, ?_⟩
        · exact (set_swap_perm (by first | grind | omega) hkp (by first | grind | omega) hv1).trans hP
        · exact up_step_list hk0 (by first | grind | omega) hlen hU1 hv1 hlt2
      · rename_i F3 N3 hlt2
        dsimp only [WhileStep2]
        (repeat' (first | ((fail_if_success (with_reducible first | refine Mine.z1 ?_ | refine Mine.z2 ?_ | refine Mine.z3 ?_ | refine Mine.z4 ?_ | refine Mine.z5 ?_ | refine Mine.z6 ?_ | refine Mine.z7 ?_ | refine Mine.z8 ?_ | refine Mine.z9 ?_ | refine Mine.z10 ?_ | refine Mine.z11 ?_ | refine Mine.z12 ?_ | refine Mine.z13 ?_ | refine Mine.z14 ?_ | refine Mine.z15 ?_ | refine Mine.z16 ?_)); (first | (with_reducible refine Mine.z18 ?_) | (fail_if_success (with_reducible refine Mine.z17 ?_))); (first | (k_unfold; (try dsimp only)) | walk1 | (dsimp only; walk1))) | fail "no step"))
        refine set_at F3 N3 hoff rfl (by first | grind | omega) (by first | grind | omega) fun h4 F4 N4 => ?_
        (repeat' (first | ((fail_if_success (with_reducible first | refine Mine.z1 ?_ | refine Mine.z2 ?_ | refine Mine.z3 ?_ | refine Mine.z4 ?_ | refine Mine.z5 ?_ | refine Mine.z6 ?_ | refine Mine.z7 ?_ | refine Mine.z8 ?_ | refine Mine.z9 ?_ | refine Mine.z10 ?_ | refine Mine.z11 ?_ | refine Mine.z12 ?_ | refine Mine.z13 ?_ | refine Mine.z14 ?_ | refine Mine.z15 ?_ | refine Mine.z16 ?_)); (first | (with_reducible refine Mine.z18 ?_) | (fail_if_success (with_reducible refine Mine.z17 ?_))); (first | (k_unfold; (try dsimp only)) | walk1 | (dsimp only; walk1))) | fail "no step"))
        refine hQ _ _ _ _ (by assumption) (by assumption) hP (fun j a b => ?_)
        rw [List.length_set, hlen] at b
        refine up_done hU1 (.inr ?_) j a b
        rw [kf_set (by first | grind | omega), kf_set (by first | grind | omega), if_pos rfl, if_neg (by first | grind | omega)]
        unfold kf
        rw [List.getD_eq_getElem?_getD, hv1]
        exact Nat.not_lt.mp hlt2
    · rename_i hpos1
      have hk0 : k = 0 := by first | grind | omega
      refine set_at F1 N1 hoff hi (by first | grind | omega) (by first | grind | omega) fun h2 F2 N2 => ?_
      (repeat' (first | ((fail_if_success (with_reducible first | refine Mine.z1 ?_ | refine Mine.z2 ?_ | refine Mine.z3 ?_ | refine Mine.z4 ?_ | refine Mine.z5 ?_ | refine Mine.z6 ?_ | refine Mine.z7 ?_ | refine Mine.z8 ?_ | refine Mine.z9 ?_ | refine Mine.z10 ?_ | refine Mine.z11 ?_ | refine Mine.z12 ?_ | refine Mine.z13 ?_ | refine Mine.z14 ?_ | refine Mine.z15 ?_ | refine Mine.z16 ?_)); (first | (with_reducible refine Mine.z18 ?_) | (fail_if_success (with_reducible refine Mine.z17 ?_))); (first | (k_unfold; (try dsimp only)) | walk1 | (dsimp only; walk1))) | fail "no step"))
      refine hQ _ _ _ _ (by assumption) (by assumption) hP (fun j a b => ?_)
      rw [List.length_set, hlen] at b
      exact up_done hU1 (.inl hk0) j a b
  · passes_own
end Mine

namespace Mine
theorem siftup_c {prog : Program} {w : World} {p : Program} {loose : List Str} {mean : ExcName → Option Value} {mg mb : Str → Option Value} {dp un : Nat} {gd : Option (List Code)} {env : Env} {A₀ : Around} {outer : List Env} {base h₀ : Heap} {L : Addr} {m : Str → Option Value} {s : Shared} {Q E : Value → Shared → Prop}
   {hp : Addr} {rest : List (Addr × Obj)} {vs : List Value} {n : Nat} {t1 : Tok} {κ : Value → Nat}
   (B : Below A₀ base outer h₀) (F : Fr h₀ L s.heap m) (X : (hd.heap_39 w.params).In h₀) (T : Top p loose mean mg mb h₀) (hf : env.frame = some L) (hke : env.scope.kind = .function) (hd : dp < 890) (hu : un < 890)
   (N : News h₀ L s.heap ((hp, listOf vs.toArray n) :: rest)) (hoff : ∀ p ∈ rest, p.1 ≠ hp) (hz : vs.length < 100) (hg : ∀ v ∈ vs, Good rest κ v) (hpos : 0 < vs.length) (hU : DownOk (kf κ vs) vs.length 0)
   (hQ : ∀ (h' : Heap) (tk' : Nat) (vs' : List Value) (n' : Nat), Fr h₀ L h' m → News h₀ L h' ((hp, listOf vs'.toArray n') :: rest) → vs'.Perm vs → HeapOk κ vs' → Q .none { s with heap := h', toks := tk' }) :
   wpAny (model prog w) { handled := none, depth := dp, frames := some (env :: outer), guards := gd, units := un } (call (.ref 70) [.ref hp, .int 0 t1]) Q E s := by
  w_top off
  refine wpAny_call ?_
  k_dflt (refine' code_def ?k1 ?k2 ?k3 ?k4 ?k5 ?kA ?kF ?kK ?k6 ?k7 ?k8 ?k9 ?kB ?_ ?c2 ?c3 ?c4 ?c5; (case kA => exact rfl); (case kF => first | exact rfl | assumption); (case kK => first | exact rfl | assumption); (case k1 => k_asm); (case k2 => k_asm); (case k3 => k_asm); (case k4 => k_asm); (case k5 => k_asm); (case k6 => k_is); (case k7 => k_is); (case k8 => ktr_room); (case k9 => exact BindsTo.of_eq rfl); (case c5 => decide); (case kB => exact locs rfl); (case c2 => exact rfl); (case c3 => exact rfl); (case c4 => exact rfl); k_whole; intro g' L' h' FG' F' N' B' X' T'; (try dsimp only); (try k_fold))
  obtain ⟨v0, hv0⟩ : ∃ v, vs[0]? = some v := ⟨_, List.getElem?_eq_getElem hpos⟩
  (repeat' (first | ((fail_if_success (with_reducible first | refine Mine.z1 ?_ | refine Mine.z2 ?_ | refine Mine.z3 ?_ | refine Mine.z4 ?_ | refine Mine.z5 ?_ | refine Mine.z6 ?_ | refine Mine.z7 ?_ | refine Mine.z8 ?_ | refine Mine.z9 ?_ | refine Mine.z10 ?_ | refine Mine.z11 ?_ | refine Mine.z12 ?_ | refine Mine.z13 ?_ | refine Mine.z14 ?_ | refine Mine.z15 ?_ | refine Mine.z16 ?_)); (first | (with_reducible refine Mine.z18 ?_) | (fail_if_success (with_reducible refine Mine.z17 ?_))); (first | (k_unfold; (try dsimp only)) | walk1 | (dsimp only; walk1))) | fail "no step"))
  refine len_at (News.get (by k_asm) (by k_mem)) hz ?_
  (repeat' (first | ((fail_if_success (with_reducible first | refine Mine.z1 ?_ | refine Mine.z2 ?_ | refine Mine.z3 ?_ | refine Mine.z4 ?_ | refine Mine.z5 ?_ | refine Mine.z6 ?_ | refine Mine.z7 ?_ | refine Mine.z8 ?_ | refine Mine.z9 ?_ | refine Mine.z10 ?_ | refine Mine.z11 ?_ | refine Mine.z12 ?_ | refine Mine.z13 ?_ | refine Mine.z14 ?_ | refine Mine.z15 ?_ | refine Mine.z16 ?_)); (first | (with_reducible refine Mine.z18 ?_) | (fail_if_success (with_reducible refine Mine.z17 ?_))); (first | (k_unfold; (try dsimp only)) | walk1 | (dsimp only; walk1))) | fail "no step"))
  refine item_at (i := 0) (News.get (by k_asm) (by k_mem)) rfl hv0 hz ?_
  (repeat' (first | ((fail_if_success (with_reducible first | refine Mine.z1 ?_ | refine Mine.z2 ?_ | refine Mine.z3 ?_ | refine Mine.z4 ?_ | refine Mine.z5 ?_ | refine Mine.z6 ?_ | refine Mine.z7 ?_ | refine Mine.z8 ?_ | refine Mine.z9 ?_ | refine Mine.z10 ?_ | refine Mine.z11 ?_ | refine Mine.z12 ?_ | refine Mine.z13 ?_ | refine Mine.z14 ?_ | refine Mine.z15 ?_ | refine Mine.z16 ?_)); (first | (with_reducible refine Mine.z18 ?_) | (fail_if_success (with_reducible refine Mine.z17 ?_))); (first | (k_unfold; (try dsimp only)) | walk1 | (dsimp only; walk1))) | fail "no step"))
  rename_i F1 N1
  refine While_inv2 (fun k m₁ news₁ => ∃ (j : Nat) (i i2 : Int) (t t' t2 t3 : Tok) (us : List Value) (c : Nat), k = vs.length - j ∧ i = (j : Nat) ∧ i2 = ((2 * j + 1 : Nat) : Int) ∧ m₁ "heap" = some (.ref hp) ∧ m₁ "startpos" = some (.int 0 t1) ∧ m₁ "pos" = some (.int i t) ∧ m₁ "newitem" = some v0
     ∧ m₁ "endpos" = some (.int vs.length t2) ∧ m₁ "childpos" = some (.int i2 t3) ∧ news₁ = (hp, listOf us.toArray c) :: rest ∧ us.length = vs.length ∧ j < vs.length ∧ (us.set j v0).Perm vs ∧ DownOk (kf κ us) vs.length j) (n₀ := vs.length) F1 N1 ?_ ?_ ?_
  · exact ⟨0, 0, _, _, 0, _, _, vs, n, rfl, rfl, rfl, rfl, rfl, rfl, rfl, rfl, rfl, rfl, rfl, hpos, by rw [set_self hv0], hU⟩
  · rintro k m₁ news₁ h₁ tk₁ F1 N1 ⟨j, i, i2, t, t', t2, t3, us, c, hk, hi, hi2, e1, e2, e3, e4, e5, e6, rfl, hlen, hj, hP, hD⟩
    replace F1 := fr_knowns [("heap", .ref hp), ("startpos", .int 0 t1), ("pos", .int i t), ("newitem", v0), ("endpos", .int vs.length t2), ("childpos", .int i2 t3)] F1 (known_cons e1 (known_cons e2 (known_cons e3 (known_cons e4 (known_cons e5 (known_cons e6 known_nil))))))
    have hus : us.length < 100 := by first | grind | omega
    have hju : j < us.length := by first | grind | omega
    have hgo : ∀ {x : Nat} {v : Value}, x ≠ j → us[x]? = some v → Good rest κ v := fun {x v} hx hv => by
      refine hg _ (hP.mem_iff.mp (List.mem_of_getElem? (i := x) ?_))
      rw [List.getElem?_set_ne (Ne.symm hx)]; exact hv
    (repeat' (first | ((fail_if_success (with_reducible first | refine Mine.z1 ?_ | refine Mine.z2 ?_ | refine Mine.z3 ?_ | refine Mine.z4 ?_ | refine Mine.z5 ?_ | refine Mine.z6 ?_ | refine Mine.z7 ?_ | refine Mine.z8 ?_ | refine Mine.z9 ?_ | refine Mine.z10 ?_ | refine Mine.z11 ?_ | refine Mine.z12 ?_ | refine Mine.z13 ?_ | refine Mine.z14 ?_ | refine Mine.z15 ?_ | refine Mine.z16 ?_)); (first | (with_reducible refine Mine.z18 ?_) | (fail_if_success (with_reducible refine Mine.z17 ?_))); (first | (k_unfold; (try dsimp only)) | walk1 | (dsimp only; walk1))) | fail "no step"))
    · rename_i hlt _ F2 N2 hlt2
      have hc2 : 2 * j + 2 < vs.length := by first | grind | omega
      obtain ⟨v1, hv1⟩ : ∃ v, us[2 * j + 1]? = some v := ⟨_, List.getElem?_eq_getElem (by first | grind | omega)⟩
      obtain ⟨v2, hv2⟩ : ∃ v, us[2 * j + 2]? = some v := ⟨_, List.getElem?_eq_getElem (by first | grind | omega)⟩
      refine item_at (News.get (by k_asm) (by k_mem)) hi2 hv1 hus ?_
      (repeat' (first | ((fail_if_success (with_reducible first | refine Mine.z1 ?_ | refine Mine.z2 ?_ | refine Mine.z3 ?_ | refine Mine.z4 ?_ | refine Mine.z5 ?_ | refine Mine.z6 ?_ | refine Mine.z7 ?_ | refine Mine.z8 ?_ | refine Mine.z9 ?_ | refine Mine.z10 ?_ | refine Mine.z11 ?_ | refine Mine.z12 ?_ | refine Mine.z13 ?_ | refine Mine.z14 ?_ | refine Mine.z15 ?_ | refine Mine.z16 ?_)); (first | (with_reducible refine Mine.z18 ?_) | (fail_if_success (with_reducible refine Mine.z17 ?_))); (first | (k_unfold; (try dsimp only)) | walk1 | (dsimp only; walk1))) | fail "no step"))
      refine item_at (News.get (by k_asm) (by k_mem)) (i := 2 * j + 2) (by first | grind | omega) hv2 hus ?_
      refine good_lt (rest := rest) (by k_asm) (fun p h => .tail _ h) (hgo (by first | grind | omega) hv1) (hgo (by first | grind | omega) hv2) (by ktr_units) ?_
      (repeat' (first | ((fail_if_success (with_reducible first | refine Mine.z1 ?_ | refine Mine.z2 ?_ | refine Mine.z3 ?_ | refine Mine.z4 ?_ | refine Mine.z5 ?_ | refine Mine.z6 ?_ | refine Mine.z7 ?_ | refine Mine.z8 ?_ | refine Mine.z9 ?_ | refine Mine.z10 ?_ | refine Mine.z11 ?_ | refine Mine.z12 ?_ | refine Mine.z13 ?_ | refine Mine.z14 ?_ | refine Mine.z15 ?_ | refine Mine.z16 ?_)); (first | (with_reducible refine Mine.z18 ?_) | (fail_if_success (with_reducible refine Mine.z17 ?_))); (first | (k_unfold; (try dsimp only)) | walk1 | (dsimp only; walk1))) | fail "no step"))
      · rename_i hlt3
        refine item_at (News.get (by k_asm) (by k_mem)) hi2 hv1 hus ?_
        (repeat' (first | ((fail_if_success (with_reducible first | refine Mine.z1 ?_ | refine Mine.z2 ?_ | refine Mine.z3 ?_ | refine Mine.z4 ?_ | refine Mine.z5 ?_ | refine Mine.z6 ?_ | refine Mine.z7 ?_ | refine Mine.z8 ?_ | refine Mine.z9 ?_ | refine Mine.z10 ?_ | refine Mine.z11 ?_ | refine Mine.z12 ?_ | refine Mine.z13 ?_ | refine Mine.z14 ?_ | refine Mine.z15 ?_ | refine Mine.z16 ?_)); (first | (with_reducible refine Mine.z18 ?_) | (fail_if_success (with_reducible refine Mine.z17 ?_))); (first | (k_unfold; (try dsimp only)) | walk1 | (dsimp only; walk1))) | fail "no step"))
        refine set_at (by assumption) (by assumption) hoff hi hju hus fun h4 F4 N4 => ?_
        (repeat' (first | ((fail_if_success (with_reducible first | refine Mine.z1 ?_ | refine Mine.z2 ?_ | refine Mine.z3 ?_ | refine Mine.z4 ?_ | refine Mine.z5 ?_ | refine Mine.z6 ?_ | refine Mine.z7 ?_ | refine Mine.z8 ?_ | refine Mine.z9 ?_ | refine Mine.z10 ?_ | refine Mine.z11 ?_ | refine Mine.z12 ?_ | refine Mine.z13 ?_ | refine Mine.z14 ?_ | refine Mine.z15 ?_ | refine Mine.z16 ?_)); (first | (with_reducible refine Mine.z18 ?_) | (fail_if_success (with_reducible refine Mine.z17 ?_))); (first | (k_unfold; (try dsimp only)) | walk1 | (dsimp only; walk1))) | fail "no step"))
        dsimp only [WhileStep2]
        refine ⟨_, _, _, _, vs.length - (2 * j + 1), rfl, by assumption, by assumption, by first | exact less_k hk hj (lt2a _) | exact less_k hk hj (lt2b _) | grind | omega, 2 * j + 1, i2, _, _, t', _, _, us.set j v1, c, rfl, hi2, ?_, rfl, rfl, rfl, rfl, rfl, rfl, rfl, by simpa using hlen, by first | grind | omega, ?_, ?_⟩
        · omega
        · exact (set_swap_perm hju (List.getElem?_eq_some_iff.mp hv1).1 (by first | grind | omega) hv1).trans hP
        · refine down_step_list hlen hj (by first | exact half1 _ | exact half2 _ | grind | omega) (by first | exact half1 _ | exact half2 _ | grind | omega) (by first | exact half1 _ | exact half2 _ | grind | omega) hv1 hD fun o a b d => ?_
          have ho : o = 2 * j + 1 ∨ o = 2 * j + 2 := by first | grind | omega
          rcases ho with rfl | rfl
          · rw [kf_of hv1]; exact Nat.le_refl _
          · rw [kf_of hv2]; exact Nat.le_of_lt hlt3
      · rename_i hlt3 _ F9 N9
        have hle3 : κ v2 ≤ κ v1 := Nat.not_lt.mp hlt3
        refine item_at (News.get (by k_asm) (by k_mem)) (by first | grind | omega) hv2 hus ?_
        (repeat' (first | ((fail_if_success (with_reducible first | refine Mine.z1 ?_ | refine Mine.z2 ?_ | refine Mine.z3 ?_ | refine Mine.z4 ?_ | refine Mine.z5 ?_ | refine Mine.z6 ?_ | refine Mine.z7 ?_ | refine Mine.z8 ?_ | refine Mine.z9 ?_ | refine Mine.z10 ?_ | refine Mine.z11 ?_ | refine Mine.z12 ?_ | refine Mine.z13 ?_ | refine Mine.z14 ?_ | refine Mine.z15 ?_ | refine Mine.z16 ?_)); (first | (with_reducible refine Mine.z18 ?_) | (fail_if_success (with_reducible refine Mine.z17 ?_))); (first | (k_unfold; (try dsimp only)) | walk1 | (dsimp only; walk1))) | fail "no step"))
        refine set_at (by assumption) (by assumption) hoff hi hju hus fun h4 F4 N4 => ?_
        (repeat' (first | ((fail_if_success (with_reducible first | refine Mine.z1 ?_ | refine Mine.z2 ?_ | refine Mine.z3 ?_ | refine Mine.z4 ?_ | refine Mine.z5 ?_ | refine Mine.z6 ?_ | refine Mine.z7 ?_ | refine Mine.z8 ?_ | refine Mine.z9 ?_ | refine Mine.z10 ?_ | refine Mine.z11 ?_ | refine Mine.z12 ?_ | refine Mine.z13 ?_ | refine Mine.z14 ?_ | refine Mine.z15 ?_ | refine Mine.z16 ?_)); (first | (with_reducible refine Mine.z18 ?_) | (fail_if_success (with_reducible refine Mine.z17 ?_))); (first | (k_unfold; (try dsimp only)) | walk1 | (dsimp only; walk1))) | fail "no step"))
        dsimp only [WhileStep2]
        refine ⟨_, _, _, _, vs.length - (2 * j + 2), rfl, by assumption, by assumption, by first | exact less_k hk hj (lt2a _) | exact less_k hk hj (lt2b _) | grind | omega, 2 * j + 2, (i2 + 1), _, _, t', _, _, us.set j v2, c, rfl, (by first | grind | omega), ?_, rfl, rfl, rfl, rfl, rfl, rfl, rfl, by simpa using hlen, by first | grind | omega, ?_, ?_⟩
        · omega
        · exact (set_swap_perm hju (List.getElem?_eq_some_iff.mp hv2).1 (by first | grind | omega) hv2).trans hP
        · refine down_step_list hlen hj (by first | exact half1 _ | exact half2 _ | grind | omega) (by first | exact half1 _ | exact half2 _ | grind | omega) (by first | exact half1 _ | exact half2 _ | grind | omega) hv2 hD fun o a b d => ?_
          have ho : o = 2 * j + 1 ∨ o = 2 * j + 2 := by first | grind | omega
          rcases ho with rfl | rfl
          · rw [kf_of hv1]; exact hle3
          · rw [kf_of hv2]; exact Nat.le_refl _
    · rename_i hlt _ F2 N2 hlt2
      obtain ⟨v1, hv1⟩ : ∃ v, us[2 * j + 1]? = some v := ⟨_, List.getElem?_eq_getElem (by first | grind | omega)⟩
      refine item_at (News.get (by k_asm) (by k_mem)) hi2 hv1 hus ?_
      (repeat' (first | ((fail_if_success (with_reducible first | refine Mine.z1 ?_ | refine Mine.z2 ?_ | refine Mine.z3 ?_ | refine Mine.z4 ?_ | refine Mine.z5 ?_ | refine Mine.z6 ?_ | refine Mine.z7 ?_ | refine Mine.z8 ?_ | refine Mine.z9 ?_ | refine Mine.z10 ?_ | refine Mine.z11 ?_ | refine Mine.z12 ?_ | refine Mine.z13 ?_ | refine Mine.z14 ?_ | refine Mine.z15 ?_ | refine Mine.z16 ?_)); (first | (with_reducible refine Mine.z18 ?_) | (fail_if_success (with_reducible refine Mine.z17 ?_))); (first | (k_unfold; (try dsimp only)) | walk1 | (dsimp only; walk1))) | fail "no step"))
      refine set_at (by assumption) (by assumption) hoff hi hju hus fun h4 F4 N4 => ?_
      (repeat' (first | ((fail_if_success (with_reducible first | refine Mine.z1 ?_ | refine Mine.z2 ?_ | refine Mine.z3 ?_ | refine Mine.z4 ?_ | refine Mine.z5 ?_ | refine Mine.z6 ?_ | refine Mine.z7 ?_ | refine Mine.z8 ?_ | refine Mine.z9 ?_ | refine Mine.z10 ?_ | refine Mine.z11 ?_ | refine Mine.z12 ?_ | refine Mine.z13 ?_ | refine Mine.z14 ?_ | refine Mine.z15 ?_ | refine Mine.z16 ?_)); (first | (with_reducible refine Mine.z18 ?_) | (fail_if_success (with_reducible refine Mine.z17 ?_))); (first | (k_unfold; (try dsimp only)) | walk1 | (dsimp only; walk1))) | fail "no step"))
      dsimp only [WhileStep2]
      refine ⟨_, _, _, _, vs.length - (2 * j + 1), rfl, by assumption, by assumption, by first | exact less_k hk hj (lt2a _) | exact less_k hk hj (lt2b _) | grind | omega, 2 * j + 1, i2, _, _, t', _, _, us.set j v1, c, rfl, hi2, ?_, rfl, rfl, rfl, rfl, rfl, rfl, rfl, by simpa using hlen, by first | grind | omega, ?_, ?_⟩
      · omega
      · exact (set_swap_perm hju (List.getElem?_eq_some_iff.mp hv1).1 (by first | grind | omega) hv1).trans hP
      · refine down_step_list hlen hj (by first | exact half1 _ | exact half2 _ | grind | omega) (by first | exact half1 _ | exact half2 _ | grind | omega) (by first | exact half1 _ | exact half2 _ | grind | omega) hv1 hD fun o a b d => ?_
        have ho : o = 2 * j + 1 := by first | exact only_o hi2 hlt2 a b d | grind | omega
        subst ho
        rw [kf_of hv1]; exact Nat.le_refl _
    · rename_i hge
      have hG0 : Good rest κ v0 := hg _ (List.mem_of_getElem? hv0)
      refine set_at F1 N1 hoff hi hju hus fun h4 F4 N4 => ?_
      (repeat' (first | ((fail_if_success (with_reducible first | refine Mine.z1 ?_ | refine Mine.z2 ?_ | refine Mine.z3 ?_ | refine Mine.z4 ?_ | refine Mine.z5 ?_ | refine Mine.z6 ?_ | refine Mine.z7 ?_ | refine Mine.z8 ?_ | refine Mine.z9 ?_ | refine Mine.z10 ?_ | refine Mine.z11 ?_ | refine Mine.z12 ?_ | refine Mine.z13 ?_ | refine Mine.z14 ?_ | refine Mine.z15 ?_ | refine Mine.z16 ?_)); (first | (with_reducible refine Mine.z18 ?_) | (fail_if_success (with_reducible refine Mine.z17 ?_))); (first | (k_unfold; (try dsimp only)) | walk1 | (dsimp only; walk1))) | fail "no step"))
      refine siftdown_c (κ := κ) (by k_asm) (by k_asm) (by k_asm) (by k_asm) rfl rfl (by ktr_room) (by ktr_units) (by k_asm) hoff (by simp; omega) (fun v hv => hg v (hP.mem_iff.mp hv)) hi (by simp; omega) ?_ ?_
      · rw [List.length_set]; rw [hlen]; exact down_up_list hlen hj hD (by first | grind | omega)
      · intro h5 tk5 vs5 n5 F5 N5 hP5 hO5
        (repeat' (first | ((fail_if_success (with_reducible first | refine Mine.z1 ?_ | refine Mine.z2 ?_ | refine Mine.z3 ?_ | refine Mine.z4 ?_ | refine Mine.z5 ?_ | refine Mine.z6 ?_ | refine Mine.z7 ?_ | refine Mine.z8 ?_ | refine Mine.z9 ?_ | refine Mine.z10 ?_ | refine Mine.z11 ?_ | refine Mine.z12 ?_ | refine Mine.z13 ?_ | refine Mine.z14 ?_ | refine Mine.z15 ?_ | refine Mine.z16 ?_)); (first | (with_reducible refine Mine.z18 ?_) | (fail_if_success (with_reducible refine Mine.z17 ?_))); (first | (k_unfold; (try dsimp only)) | walk1 | (dsimp only; walk1))) | fail "no step"))
        exact hQ _ _ _ _ (by assumption) (by assumption) (hP5.trans hP) hO5
  · passes_own
end Mine

namespace Mine
theorem heappush_c {prog : Program} {w : World} {p : Program} {loose : List Str} {mean : ExcName → Option Value} {mg mb : Str → Option Value} {dp un : Nat} {gd : Option (List Code)} {env : Env} {A₀ : Around} {outer : List Env} {base h₀ : Heap} {L : Addr} {m : Str → Option Value} {s : Shared} {Q E : Value → Shared → Prop}
   {hp : Addr} {rest : List (Addr × Obj)} {vs : List Value} {n : Nat} {v : Value} {κ : Value → Nat}
   (B : Below A₀ base outer h₀) (F : Fr h₀ L s.heap m) (X : (hd.heap_39 w.params).In h₀) (T : Top p loose mean mg mb h₀) (hf : env.frame = some L) (hke : env.scope.kind = .function) (hd : dp < 880) (hu : un < 880)
   (N : News h₀ L s.heap ((hp, listOf vs.toArray n) :: rest)) (hoff : ∀ p ∈ rest, p.1 ≠ hp) (hz : vs.length < 90) (hg : ∀ v ∈ vs, Good rest κ v) (hv : Good rest κ v) (hO : HeapOk κ vs)
   (hQ : ∀ (h' : Heap) (tk' : Nat) (vs' : List Value) (n' : Nat), Fr h₀ L h' m → News h₀ L h' ((hp, listOf vs'.toArray n') :: rest) → vs'.Perm (vs ++ [v]) → HeapOk κ vs' → Q .none { s with heap := h', toks := tk' }) :
   wpAny (model prog w) { handled := none, depth := dp, frames := some (env :: outer), guards := gd, units := un } (call (.ref 49) [.ref hp, v]) Q E s := by
  w_top off
  refine wpAny_call ?_
  k_dflt (refine' code_def ?k1 ?k2 ?k3 ?k4 ?k5 ?kA ?kF ?kK ?k6 ?k7 ?k8 ?k9 ?kB ?_ ?c2 ?c3 ?c4 ?c5; (case kA => exact rfl); (case kF => first | exact rfl | assumption); (case kK => first | exact rfl | assumption); (case k1 => k_asm); (case k2 => k_asm); (case k3 => k_asm); (case k4 => k_asm); (case k5 => k_asm); (case k6 => k_is); (case k7 => k_is); (case k8 => ktr_room); (case k9 => exact BindsTo.of_eq rfl); (case c5 => decide); (case kB => exact locs rfl); (case c2 => exact rfl); (case c3 => exact rfl); (case c4 => exact rfl); k_whole; intro g' L' h' FG' F' N' B' X' T'; (try dsimp only); (try k_fold))
  (repeat' (first | ((fail_if_success (with_reducible first | refine Mine.z1 ?_ | refine Mine.z2 ?_ | refine Mine.z3 ?_ | refine Mine.z4 ?_ | refine Mine.z5 ?_ | refine Mine.z6 ?_ | refine Mine.z7 ?_ | refine Mine.z8 ?_ | refine Mine.z9 ?_ | refine Mine.z10 ?_ | refine Mine.z11 ?_ | refine Mine.z12 ?_ | refine Mine.z13 ?_ | refine Mine.z14 ?_ | refine Mine.z15 ?_ | refine Mine.z16 ?_)); (first | (with_reducible refine Mine.z18 ?_) | (fail_if_success (with_reducible refine Mine.z17 ?_))); (first | (k_unfold; (try dsimp only)) | walk1 | (dsimp only; walk1))) | fail "no step"))
  refine app_at (by assumption) (by assumption) hoff (by omega) fun h2 F2 N2 => ?_
  (repeat' (first | ((fail_if_success (with_reducible first | refine Mine.z1 ?_ | refine Mine.z2 ?_ | refine Mine.z3 ?_ | refine Mine.z4 ?_ | refine Mine.z5 ?_ | refine Mine.z6 ?_ | refine Mine.z7 ?_ | refine Mine.z8 ?_ | refine Mine.z9 ?_ | refine Mine.z10 ?_ | refine Mine.z11 ?_ | refine Mine.z12 ?_ | refine Mine.z13 ?_ | refine Mine.z14 ?_ | refine Mine.z15 ?_ | refine Mine.z16 ?_)); (first | (with_reducible refine Mine.z18 ?_) | (fail_if_success (with_reducible refine Mine.z17 ?_))); (first | (k_unfold; (try dsimp only)) | walk1 | (dsimp only; walk1))) | fail "no step"))
  refine len_at (News.get (by k_asm) (by k_mem)) (by simp; omega) ?_
  (repeat' (first | ((fail_if_success (with_reducible first | refine Mine.z1 ?_ | refine Mine.z2 ?_ | refine Mine.z3 ?_ | refine Mine.z4 ?_ | refine Mine.z5 ?_ | refine Mine.z6 ?_ | refine Mine.z7 ?_ | refine Mine.z8 ?_ | refine Mine.z9 ?_ | refine Mine.z10 ?_ | refine Mine.z11 ?_ | refine Mine.z12 ?_ | refine Mine.z13 ?_ | refine Mine.z14 ?_ | refine Mine.z15 ?_ | refine Mine.z16 ?_)); (first | (with_reducible refine Mine.z18 ?_) | (fail_if_success (with_reducible refine Mine.z17 ?_))); (first | (k_unfold; (try dsimp only)) | walk1 | (dsimp only; walk1))) | fail "no step"))
  refine siftdown_c (κ := κ) (pos := vs.length) (by k_asm) (by k_asm) (by k_asm) (by k_asm) rfl rfl (by ktr_room) (by ktr_units) (by k_asm) hoff (by simp; omega) ?_ (by simp) (by simp) ?_ ?_
  · intro x hx
    rcases List.mem_append.mp hx with h | h
    · exact hg x h
    · rw [List.mem_singleton.mp h]; exact hv
  · have z := heap_push (v := v) hO
    simpa using z
  · intro h5 tk5 vs5 n5 F5 N5 hP5 hO5
    (repeat' (first | ((fail_if_success (with_reducible first | refine Mine.z1 ?_ | refine Mine.z2 ?_ | refine Mine.z3 ?_ | refine Mine.z4 ?_ | refine Mine.z5 ?_ | refine Mine.z6 ?_ | refine Mine.z7 ?_ | refine Mine.z8 ?_ | refine Mine.z9 ?_ | refine Mine.z10 ?_ | refine Mine.z11 ?_ | refine Mine.z12 ?_ | refine Mine.z13 ?_ | refine Mine.z14 ?_ | refine Mine.z15 ?_ | refine Mine.z16 ?_)); (first | (with_reducible refine Mine.z18 ?_) | (fail_if_success (with_reducible refine Mine.z17 ?_))); (first | (k_unfold; (try dsimp only)) | walk1 | (dsimp only; walk1))) | fail "no step"))
    exact hQ _ _ _ _ (by assumption) (by assumption) hP5 hO5
theorem heappop_c {prog : Program} {w : World} {p : Program} {loose : List Str} {mean : ExcName → Option Value} {mg mb : Str → Option Value} {dp un : Nat} {gd : Option (List Code)} {env : Env} {A₀ : Around} {outer : List Env} {base h₀ : Heap} {L : Addr} {m : Str → Option Value} {s : Shared} {Q E : Value → Shared → Prop}
   {hp : Addr} {rest : List (Addr × Obj)} {vs : List Value} {n : Nat} {κ : Value → Nat}
   (B : Below A₀ base outer h₀) (F : Fr h₀ L s.heap m) (X : (hd.heap_39 w.params).In h₀) (T : Top p loose mean mg mb h₀) (hf : env.frame = some L) (hke : env.scope.kind = .function) (hd : dp < 880) (hu : un < 880)
   (N : News h₀ L s.heap ((hp, listOf vs.toArray n) :: rest)) (hoff : ∀ p ∈ rest, p.1 ≠ hp) (hz : vs.length < 90) (hg : ∀ v ∈ vs, Good rest κ v) (hO : HeapOk κ vs) (hne : 0 < vs.length)
   (hQ : ∀ (h' : Heap) (tk' : Nat) (r : Value) (vs' : List Value) (n' : Nat), Fr h₀ L h' m → News h₀ L h' ((hp, listOf vs'.toArray n') :: rest) → (r :: vs').Perm vs → HeapOk κ vs' → (∀ v ∈ vs, κ r ≤ κ v) → Q r { s with heap := h', toks := tk' }) :
   wpAny (model prog w) { handled := none, depth := dp, frames := some (env :: outer), guards := gd, units := un } (call (.ref 56) [.ref hp]) Q E s := by
  w_top off
  refine wpAny_call ?_
  k_dflt (refine' code_def ?k1 ?k2 ?k3 ?k4 ?k5 ?kA ?kF ?kK ?k6 ?k7 ?k8 ?k9 ?kB ?_ ?c2 ?c3 ?c4 ?c5; (case kA => exact rfl); (case kF => first | exact rfl | assumption); (case kK => first | exact rfl | assumption); (case k1 => k_asm); (case k2 => k_asm); (case k3 => k_asm); (case k4 => k_asm); (case k5 => k_asm); (case k6 => k_is); (case k7 => k_is); (case k8 => ktr_room); (case k9 => exact BindsTo.of_eq rfl); (case c5 => decide); (case kB => exact locs rfl); (case c2 => exact rfl); (case c3 => exact rfl); (case c4 => exact rfl); k_whole; intro g' L' h' FG' F' N' B' X' T'; (try dsimp only); (try k_fold))
  obtain ⟨us, v, rfl⟩ : ∃ us v, vs = us ++ [v] := by
    rcases List.eq_nil_or_concat vs with h | ⟨us, v, h⟩
    · rw [h] at hne; simp at hne
    · exact ⟨us, v, by simpa using h⟩
  simp only [List.length_append, List.length_cons, List.length_nil] at hz
  (repeat' (first | ((fail_if_success (with_reducible first | refine Mine.z1 ?_ | refine Mine.z2 ?_ | refine Mine.z3 ?_ | refine Mine.z4 ?_ | refine Mine.z5 ?_ | refine Mine.z6 ?_ | refine Mine.z7 ?_ | refine Mine.z8 ?_ | refine Mine.z9 ?_ | refine Mine.z10 ?_ | refine Mine.z11 ?_ | refine Mine.z12 ?_ | refine Mine.z13 ?_ | refine Mine.z14 ?_ | refine Mine.z15 ?_ | refine Mine.z16 ?_)); (first | (with_reducible refine Mine.z18 ?_) | (fail_if_success (with_reducible refine Mine.z17 ?_))); (first | (k_unfold; (try dsimp only)) | walk1 | (dsimp only; walk1))) | fail "no step"))
  dsimp only
  refine pop_at (by assumption) (by assumption) hoff (by omega) fun h2 F2 N2 => ?_
  (repeat' (first | ((fail_if_success (with_reducible first | refine Mine.z1 ?_ | refine Mine.z2 ?_ | refine Mine.z3 ?_ | refine Mine.z4 ?_ | refine Mine.z5 ?_ | refine Mine.z6 ?_ | refine Mine.z7 ?_ | refine Mine.z8 ?_ | refine Mine.z9 ?_ | refine Mine.z10 ?_ | refine Mine.z11 ?_ | refine Mine.z12 ?_ | refine Mine.z13 ?_ | refine Mine.z14 ?_ | refine Mine.z15 ?_ | refine Mine.z16 ?_)); (first | (with_reducible refine Mine.z18 ?_) | (fail_if_success (with_reducible refine Mine.z17 ?_))); (first | (k_unfold; (try dsimp only)) | walk1 | (dsimp only; walk1))) | fail "no step"))
  · rename us.isEmpty = true => he
    have he' : us = [] := List.isEmpty_iff.mp he
    subst he'
    refine hQ _ _ _ _ _ (by assumption) (by assumption) (List.Perm.refl _) (fun i a b => absurd b (Nat.not_lt_zero _)) ?_
    intro x hx
    rw [List.mem_singleton.mp hx]
    exact Nat.le_refl _
  · rename us.isEmpty = false => he
    have hl : 0 < us.length := by
      cases us with
      | nil => simp at he
      | cons _ _ => simp
    obtain ⟨v0, hv0⟩ : ∃ v, us[0]? = some v := ⟨_, List.getElem?_eq_getElem hl⟩
    refine item_at (i := 0) (News.get (by k_asm) (by k_mem)) rfl hv0 (by omega) ?_
    (repeat' (first | ((fail_if_success (with_reducible first | refine Mine.z1 ?_ | refine Mine.z2 ?_ | refine Mine.z3 ?_ | refine Mine.z4 ?_ | refine Mine.z5 ?_ | refine Mine.z6 ?_ | refine Mine.z7 ?_ | refine Mine.z8 ?_ | refine Mine.z9 ?_ | refine Mine.z10 ?_ | refine Mine.z11 ?_ | refine Mine.z12 ?_ | refine Mine.z13 ?_ | refine Mine.z14 ?_ | refine Mine.z15 ?_ | refine Mine.z16 ?_)); (first | (with_reducible refine Mine.z18 ?_) | (fail_if_success (with_reducible refine Mine.z17 ?_))); (first | (k_unfold; (try dsimp only)) | walk1 | (dsimp only; walk1))) | fail "no step"))
    refine set_at (i := 0) (by assumption) (by assumption) hoff rfl hl (by omega) fun h4 F4 N4 => ?_
    (repeat' (first | ((fail_if_success (with_reducible first | refine Mine.z1 ?_ | refine Mine.z2 ?_ | refine Mine.z3 ?_ | refine Mine.z4 ?_ | refine Mine.z5 ?_ | refine Mine.z6 ?_ | refine Mine.z7 ?_ | refine Mine.z8 ?_ | refine Mine.z9 ?_ | refine Mine.z10 ?_ | refine Mine.z11 ?_ | refine Mine.z12 ?_ | refine Mine.z13 ?_ | refine Mine.z14 ?_ | refine Mine.z15 ?_ | refine Mine.z16 ?_)); (first | (with_reducible refine Mine.z18 ?_) | (fail_if_success (with_reducible refine Mine.z17 ?_))); (first | (k_unfold; (try dsimp only)) | walk1 | (dsimp only; walk1))) | fail "no step"))
    have hr : us = v0 :: us.tail := by
      cases us with
      | nil => simp at hl
      | cons a r => simp at hv0; rw [hv0]; rfl
    have hset : us.set 0 v = v :: us.tail := by rw [hr]; rfl
    have hPv : (v0 :: us.set 0 v).Perm (us ++ [v]) := by
      rw [hset]
      refine (List.Perm.swap v v0 us.tail).trans ?_
      rw [← hr]
      exact (List.perm_append_comm (l₁ := [v]) (l₂ := us))
    refine siftup_c (κ := κ) (by k_asm) (by k_asm) (by k_asm) (by k_asm) rfl rfl (by ktr_room) (by ktr_units) (by k_asm) hoff (by simp; omega) (fun x hx => hg x (hPv.mem_iff.mp (.tail _ hx))) (by simpa using hl) ?_ ?_
    · rw [List.length_set]; exact heap_down0 hO hl
    · intro h5 tk5 vs5 n5 F5 N5 hP5 hO5
      (repeat' (first | ((fail_if_success (with_reducible first | refine Mine.z1 ?_ | refine Mine.z2 ?_ | refine Mine.z3 ?_ | refine Mine.z4 ?_ | refine Mine.z5 ?_ | refine Mine.z6 ?_ | refine Mine.z7 ?_ | refine Mine.z8 ?_ | refine Mine.z9 ?_ | refine Mine.z10 ?_ | refine Mine.z11 ?_ | refine Mine.z12 ?_ | refine Mine.z13 ?_ | refine Mine.z14 ?_ | refine Mine.z15 ?_ | refine Mine.z16 ?_)); (first | (with_reducible refine Mine.z18 ?_) | (fail_if_success (with_reducible refine Mine.z17 ?_))); (first | (k_unfold; (try dsimp only)) | walk1 | (dsimp only; walk1))) | fail "no step"))
      refine hQ _ _ _ _ _ (by assumption) (by assumption) ((hP5.cons v0).trans hPv) hO5 ?_
      intro x hx
      have z := heap_pop hO x hx
      have e : kf κ (us ++ [v]) 0 = κ v0 := kf_of (by rw [List.getElem?_append_left hl]; exact hv0)
      rw [e] at z
      exact z
end Mine

namespace Mine
theorem strip_fin {n f b i0 j' : Nat} {e g : Int} (hend : (n ≤ f ∧ i0 = n ∧ e = 0) ∨ (f ≤ n ∧ i0 = f ∧ e = ((n - f : Nat) : Int))) (hg : g = e - (j' : Nat)) (hjn : (j' : Int) ≤ e) (hjb : j' ≤ b) (hs : g = 0 ∨ b ≤ j') :
    (n ≤ f ∧ i0 = n ∧ j' = 0) ∨ (f ≤ n ∧ i0 = f ∧ (j' = n - f ∧ n - f ≤ b ∨ j' = b ∧ b ≤ n - f)) := by
  generalize n - f = d at *
  rcases hend with ⟨a, b1, e1⟩ | ⟨a, b1, e1⟩
  · exact .inl ⟨a, b1, by clear hs hg a b1 hjb; omega⟩
  · refine .inr ⟨a, b1, ?_⟩
    clear a b1
    rcases hs with hs | hs
    · have hj : j' = d := by first | grind | omega
      exact .inl ⟨hj, hj ▸ hjb⟩
    · have hj : j' = b := Nat.le_antisymm hjb hs
      exact .inr ⟨hj, by clear hg hs; omega⟩
theorem strip_c {prog : Program} {w : World} {p : Program} {loose : List Str} {mean : ExcName → Option Value} {mg mb : Str → Option Value} {dp un : Nat} {gd : Option (List Code)} {env : Env} {A₀ : Around} {outer : List Env} {base h₀ : Heap} {L : Addr} {m : Str → Option Value} {s : Shared} {Q E : Value → Shared → Prop}
   {f b n : Nat} {core : List Nat} {a : Int} {t1 t2 : Tok}
   (B : Below A₀ base outer h₀) (F : Fr h₀ L s.heap m) (X : (hd.heap_39 w.params).In h₀) (T : Top p loose mean mg mb h₀) (hf : env.frame = some L) (hke : env.scope.kind = .function) (hd : dp < 900) (hu : un < 900) {news : List (Addr × Obj)} (N : News h₀ L s.heap news)
   (hc : CoreOk core) (hz : f + core.length + b < 100) (ha : a = (n : Nat))
   (hQ : ∀ (h' : Heap) (tk' : Nat) (t : Tok), Fr h₀ L h' m → News h₀ L h' news → Q (.str (rowL (f - n) core (b - (n - f))) t) { s with heap := h', toks := tk' }) :
   wpAny (model prog w) { handled := none, depth := dp, frames := some (env :: outer), guards := gd, units := un } (call (.ref 42) [.str (rowL f core b) t1, .int a t2]) Q E s := by
  w_top off
  have hxl := rowL_length f core b
  have hcp := hc.pos
  have hxz : (rowL f core b).length < 100 := by first | grind | omega
  refine wpAny_call ?_
  k_dflt (refine' code_def ?k1 ?k2 ?k3 ?k4 ?k5 ?kA ?kF ?kK ?k6 ?k7 ?k8 ?k9 ?kB ?_ ?c2 ?c3 ?c4 ?c5; (case kA => exact rfl); (case kF => first | exact rfl | assumption); (case kK => first | exact rfl | assumption); (case k1 => k_asm); (case k2 => k_asm); (case k3 => k_asm); (case k4 => k_asm); (case k5 => k_asm); (case k6 => k_is); (case k7 => k_is); (case k8 => ktr_room); (case k9 => exact BindsTo.of_eq rfl); (case c5 => decide); (case kB => exact locs rfl); (case c2 => exact rfl); (case c3 => exact rfl); (case c4 => exact rfl); k_whole; intro g' L' h' FG' F' N' B' X' T'; (try dsimp only); (try k_fold))
  (repeat' (first | ((fail_if_success (with_reducible first | refine Mine.z1 ?_ | refine Mine.z2 ?_ | refine Mine.z3 ?_ | refine Mine.z4 ?_ | refine Mine.z5 ?_ | refine Mine.z6 ?_ | refine Mine.z7 ?_ | refine Mine.z8 ?_ | refine Mine.z9 ?_ | refine Mine.z10 ?_ | refine Mine.z11 ?_ | refine Mine.z12 ?_ | refine Mine.z13 ?_ | refine Mine.z14 ?_ | refine Mine.z15 ?_ | refine Mine.z16 ?_)); (first | (with_reducible refine Mine.z18 ?_) | (fail_if_success (with_reducible refine Mine.z17 ?_))); (first | (k_unfold; (try dsimp only)) | walk1 | (dsimp only; walk1))) | fail "no step"))
  rename_i F1 N1
  refine While_inv2 (fun k m₁ news₁ => ∃ (i e : Int) (j : Nat) (t3 t4 : Tok), k = n - j ∧ i = (j : Nat) ∧ e = (n : Int) - (j : Nat) ∧ j ≤ n ∧ j ≤ f ∧ m₁ "s" = some (.str (rowL f core b) t1) ∧ m₁ "lpos" = some (.int i t3) ∧ m₁ "amount" = some (.int e t4) ∧ news₁ = news) (n₀ := n) F1 N1 ?_ ?_ ?_
  · exact ⟨0, a, 0, _, _, rfl, rfl, by first | grind | omega, by first | grind | omega, by first | grind | omega, rfl, rfl, rfl, rfl⟩
  · rintro k m₁ news₁ h₁ tk₁ F1 N1 ⟨i, e, j, t3, t4, hk, hi, he, hjn, hjf, e1, e2, e3, hn1⟩
    rw [hn1] at N1
    replace F1 := fr_knowns [("s", .str (rowL f core b) t1), ("lpos", .int i t3), ("amount", .int e t4)] F1 (known_cons e1 (known_cons e2 (known_cons e3 known_nil)))
    have hi0 : 0 ≤ i := by first | grind | omega
    have hil : i < (rowL f core b).length := by first | grind | omega
    have hit := row_front (f := f) (b := b) hc hi hjf
    (repeat' (first | ((fail_if_success (with_reducible first | refine Mine.z1 ?_ | refine Mine.z2 ?_ | refine Mine.z3 ?_ | refine Mine.z4 ?_ | refine Mine.z5 ?_ | refine Mine.z6 ?_ | refine Mine.z7 ?_ | refine Mine.z8 ?_ | refine Mine.z9 ?_ | refine Mine.z10 ?_ | refine Mine.z11 ?_ | refine Mine.z12 ?_ | refine Mine.z13 ?_ | refine Mine.z14 ?_ | refine Mine.z15 ?_ | refine Mine.z16 ?_)); (first | (with_reducible refine Mine.z18 ?_) | (fail_if_success (with_reducible refine Mine.z17 ?_))); (first | (k_unfold; (try dsimp only)) | walk1 | (dsimp only; walk1))) | fail "no step"))
    · rename (Txt.item _ _ == _) = true => hq
      rw [hit] at hq
      have hq' : j < f := by simpa using hq
      dsimp only [WhileStep2]
      exact ⟨_, _, _, _, n - (j + 1), rfl, by assumption, by assumption, by first | exact strip_d hk he hjn (by assumption) | grind | omega, i + 1, e - 1, j + 1, _, _, rfl, by first | grind | omega, by first | grind | omega, by first | grind | omega, by first | grind | omega, rfl, rfl, rfl, rfl⟩
    all_goals (
      obtain ⟨i0, hi0', hend⟩ : ∃ i0 : Nat, i = i0 ∧ ((n ≤ f ∧ i0 = n ∧ e = 0) ∨ (f ≤ n ∧ i0 = f ∧ e = ((n - f : Nat) : Int))) := by
        first
        | (rename (Txt.item _ _ == _) = false => hq
           rw [hit] at hq
           have hq' : ¬ j < f := by simpa using hq
           exact ⟨j, hi, .inr ⟨by first | grind | omega, by first | grind | omega, by first | grind | omega⟩⟩)
        | (refine ⟨j, hi, ?_⟩; by_cases z : n ≤ f
           · left; exact ⟨z, by first | grind | omega, by first | grind | omega⟩
           · right; exact ⟨by first | grind | omega, by first | grind | omega, by first | grind | omega⟩)
      rename_i F2 N2
      refine While_inv2 (fun k m₁ news₁ => ∃ (x g : Int) (j : Nat) (t5 t6 : Tok), k = e.toNat - j ∧ x = ((f + core.length + b : Nat) : Int) - 1 - (j : Nat) ∧ g = e - (j : Nat) ∧ (j : Int) ≤ e ∧ j ≤ b ∧ m₁ "s" = some (.str (rowL f core b) t1) ∧ m₁ "lpos" = some (.int i t3) ∧ m₁ "rpos" = some (.int x t5) ∧ m₁ "amount" = some (.int g t6) ∧ news₁ = news) (n₀ := e.toNat) F2 N2 ?_ ?_ ?_)
    · exact ⟨_, e, 0, _, _, rfl, by rw [hxl]; omega, by first | grind | omega, by first | grind | omega, by first | grind | omega, rfl, rfl, rfl, rfl, rfl⟩
    rotate_left 1
    · passes_own
    · exact ⟨_, e, 0, _, _, rfl, by rw [hxl]; omega, by first | grind | omega, by first | grind | omega, by first | grind | omega, rfl, rfl, rfl, rfl, rfl⟩
    rotate_left 1
    · passes_own
    all_goals (
      clear F2 N2
      rintro k m₁ news₁ h₁ tk₁ F1 N1 ⟨x, g, j', t5, t6, hk', hx, hg, hjn', hjb, e4, e5, e6, e7, hn2⟩
      rw [hn2] at N1
      replace F1 := fr_knowns [("s", .str (rowL f core b) t1), ("lpos", .int i t3), ("rpos", .int x t5), ("amount", .int g t6)] F1 (known_cons e4 (known_cons e5 (known_cons e6 (known_cons e7 known_nil))))
      have hx0 : 0 ≤ x := by first | grind | omega
      have hxl' : x < (rowL f core b).length := by first | grind | omega
      have hit' := row_back (f := f) (b := b) hc hx hjb
      (repeat' (first | ((fail_if_success (with_reducible first | refine Mine.z1 ?_ | refine Mine.z2 ?_ | refine Mine.z3 ?_ | refine Mine.z4 ?_ | refine Mine.z5 ?_ | refine Mine.z6 ?_ | refine Mine.z7 ?_ | refine Mine.z8 ?_ | refine Mine.z9 ?_ | refine Mine.z10 ?_ | refine Mine.z11 ?_ | refine Mine.z12 ?_ | refine Mine.z13 ?_ | refine Mine.z14 ?_ | refine Mine.z15 ?_ | refine Mine.z16 ?_)); (first | (with_reducible refine Mine.z18 ?_) | (fail_if_success (with_reducible refine Mine.z17 ?_))); (first | (k_unfold; (try dsimp only)) | walk1 | (dsimp only; walk1))) | fail "no step")))
    all_goals first
      | (exfalso; omega)
      | (rename (Txt.item (rowL f core b) x == _) = true => hq
         rw [hit'] at hq
         have hq' : j' < b := by simpa using hq
         dsimp only [WhileStep2]
         exact ⟨_, _, _, _, e.toNat - (j' + 1), rfl, by assumption, by assumption, by first | exact strip_a hk' hg hjn' (by assumption) | exact strip_b hg hjn' (by assumption) | grind | omega, x - 1, g - 1, j' + 1, _, _, rfl, by first | exact strip_a hk' hg hjn' (by assumption) | exact strip_b hg hjn' (by assumption) | grind | omega, by first | exact strip_a hk' hg hjn' (by assumption) | exact strip_b hg hjn' (by assumption) | grind | omega, by first | exact strip_a hk' hg hjn' (by assumption) | exact strip_b hg hjn' (by assumption) | grind | omega, by first | exact strip_a hk' hg hjn' (by assumption) | exact strip_b hg hjn' (by assumption) | grind | omega, rfl, rfl, rfl, rfl, rfl⟩)
      | (have hfin : (n ≤ f ∧ i0 = n ∧ j' = 0) ∨ (f ≤ n ∧ i0 = f ∧ (j' = n - f ∧ n - f ≤ b ∨ j' = b ∧ b ≤ n - f)) := by
           first
           | exact strip_fin hend hg hjn' hjb (.inl (by assumption))
           | (rename (Txt.item (rowL f core b) x == _) = false => hq
              rw [hit'] at hq
              have hq' : ¬ j' < b := by simpa using hq
              exact strip_fin hend hg hjn' hjb (.inr (Nat.le_of_not_lt hq')))
         try dsimp only
         k_unmd
         (repeat' (first | ((fail_if_success (with_reducible first | refine Mine.z1 ?_ | refine Mine.z2 ?_ | refine Mine.z3 ?_ | refine Mine.z4 ?_ | refine Mine.z5 ?_ | refine Mine.z6 ?_ | refine Mine.z7 ?_ | refine Mine.z8 ?_ | refine Mine.z9 ?_ | refine Mine.z10 ?_ | refine Mine.z11 ?_ | refine Mine.z12 ?_ | refine Mine.z13 ?_ | refine Mine.z14 ?_ | refine Mine.z15 ?_ | refine Mine.z16 ?_)); (first | (with_reducible refine Mine.z18 ?_) | (fail_if_success (with_reducible refine Mine.z17 ?_))); (first | (k_unfold; (try dsimp only)) | walk1 | (dsimp only; walk1))) | fail "no step"))
         rw [row_slice (n := n) hi0' hx hcp hfin]
         exact hQ _ _ _ (by assumption) (by assumption))
  · passes_own
end Mine

namespace Mine
theorem max0i (x : Int) {d : Decidable (0 > x)} : (@ite Int (0 > x) d 0 x) = (x.toNat : Int) := by
  split
  · next h => rw [Int.toNat_of_nonpos (Int.le_of_lt h)]; rfl
  · next h => exact (Int.toNat_of_nonneg (Int.not_lt.mp h)).symm
theorem left_c {prog : Program} {w : World} {p : Program} {loose : List Str} {mean : ExcName → Option Value} {mg mb : Str → Option Value} {dp un : Nat} {gd : Option (List Code)} {env : Env} {A₀ : Around} {outer : List Env} {base h₀ : Heap} {L : Addr} {m : Str → Option Value} {s : Shared} {Q E : Value → Shared → Prop}
   {f b n : Nat} {x : Str} {fi bi a : Int} {t1 t2 t3 t4 : Tok}
   (B : Below A₀ base outer h₀) (F : Fr h₀ L s.heap m) (X : (hd.heap_39 w.params).In h₀) (T : Top p loose mean mg mb h₀) (hf : env.frame = some L) (hke : env.scope.kind = .function) (hd : dp < 900) (hu : un < 900) {news : List (Addr × Obj)} (N : News h₀ L s.heap news)
   (hx : x.length < 20) (hf0 : fi = (f : Nat)) (hb0 : bi = (b : Nat)) (ha : a = (n : Nat)) (hfz : f < 20) (hbz : b < 20) (hnz : n < 200)
   (hQ : ∀ (h' : Heap) (tk' : Nat) (t : Tok), Fr h₀ L h' m → News h₀ L h' news → Q (.str (rowL (f - n) x.cps.toList (b - (n - f))) t) { s with heap := h', toks := tk' }) :
   wpAny (model prog w) { handled := none, depth := dp, frames := some (env :: outer), guards := gd, units := un } (call (.ref 195) [.int fi t1, .str x t2, .int bi t3, .int a t4]) Q E s := by
  w_top off
  refine wpAny_call ?_
  k_dflt (refine' code_def ?k1 ?k2 ?k3 ?k4 ?k5 ?kA ?kF ?kK ?k6 ?k7 ?k8 ?k9 ?kB ?_ ?c2 ?c3 ?c4 ?c5; (case kA => exact rfl); (case kF => first | exact rfl | assumption); (case kK => first | exact rfl | assumption); (case k1 => k_asm); (case k2 => k_asm); (case k3 => k_asm); (case k4 => k_asm); (case k5 => k_asm); (case k6 => k_is); (case k7 => k_is); (case k8 => ktr_room); (case k9 => exact BindsTo.of_eq rfl); (case c5 => decide); (case kB => exact locs rfl); (case c2 => exact rfl); (case c3 => exact rfl); (case c4 => exact rfl); k_whole; intro g' L' h' FG' F' N' B' X' T'; (try dsimp only); (try k_fold))
  (repeat' (first | ((fail_if_success (with_reducible first | refine Mine.z1 ?_ | refine Mine.z2 ?_ | refine Mine.z3 ?_ | refine Mine.z4 ?_ | refine Mine.z5 ?_ | refine Mine.z6 ?_ | refine Mine.z7 ?_ | refine Mine.z8 ?_ | refine Mine.z9 ?_ | refine Mine.z10 ?_ | refine Mine.z11 ?_ | refine Mine.z12 ?_ | refine Mine.z13 ?_ | refine Mine.z14 ?_ | refine Mine.z15 ?_ | refine Mine.z16 ?_)); (first | (with_reducible refine Mine.z18 ?_) | (fail_if_success (with_reducible refine Mine.z17 ?_))); (first | (k_unfold; (try dsimp only)) | walk1 | (dsimp only; walk1))) | fail "no step"))
  have e0 : Str.ofString " " = ⟨#[32]⟩ := by decide
  have hres : ∀ (i j : Int), i.toNat = f - n → j.toNat = b - (n - f) → Txt.mul (Str.ofString " ") i ++ x ++ Txt.mul (Str.ofString " ") j = rowL (f - n) x.cps.toList (b - (n - f)) := by
    intro i j hi hj
    apply Str.ext'
    apply Array.toList_inj.mp
    show ((Txt.mul (Str.ofString " ") i).cps ++ x.cps ++ (Txt.mul (Str.ofString " ") j).cps).toList = _
    rw [Array.toList_append, Array.toList_append, e0, mul_one_list, mul_one_list, hi, hj]
    simp [rowL]
  have hQ' := hQ
  rw [hres _ _ (by rw [max0i, hf0, ha, Int.toNat_sub]; rfl) (by rw [max0i, max0i, hf0, hb0, ha, Int.toNat_sub, Int.toNat_sub]; rfl)]
  exact hQ _ _ _ (by assumption) (by assumption)
end Mine

namespace Mine
theorem fspath_c {prog : Program} {w : World} {p : Program} {loose : List Str} {mean : ExcName → Option Value} {mg mb : Str → Option Value} {dp un : Nat} {gd : Option (List Code)} {env : Env} {A₀ : Around} {outer : List Env} {base h₀ : Heap} {L : Addr} {m : Str → Option Value} {s : Shared} {Q E : Value → Shared → Prop}
   {x : Str} {t1 : Tok}
   (B : Below A₀ base outer h₀) (F : Fr h₀ L s.heap m) (X : (hd.heap_39 w.params).In h₀) (T : Top p loose mean mg mb h₀) (hf : env.frame = some L) (hke : env.scope.kind = .function) (hd : dp < 900) (hu : un < 900) {news : List (Addr × Obj)} (N : News h₀ L s.heap news)
   (hQ : ∀ (h' : Heap) (tk' : Nat), Fr h₀ L h' m → News h₀ L h' news → Q (.str x t1) { s with heap := h', toks := tk' }) :
   wpAny (model prog w) { handled := none, depth := dp, frames := some (env :: outer), guards := gd, units := un } (call (.ref 143) [.str x t1]) Q E s := by
  w_top off
  refine wpAny_call ?_
  k_dflt (refine' code_def ?k1 ?k2 ?k3 ?k4 ?k5 ?kA ?kF ?kK ?k6 ?k7 ?k8 ?k9 ?kB ?_ ?c2 ?c3 ?c4 ?c5; (case kA => exact rfl); (case kF => first | exact rfl | assumption); (case kK => first | exact rfl | assumption); (case k1 => k_asm); (case k2 => k_asm); (case k3 => k_asm); (case k4 => k_asm); (case k5 => k_asm); (case k6 => k_is); (case k7 => k_is); (case k8 => ktr_room); (case k9 => exact BindsTo.of_eq rfl); (case c5 => decide); (case kB => exact locs rfl); (case c2 => exact rfl); (case c3 => exact rfl); (case c4 => exact rfl); k_whole; intro g' L' h' FG' F' N' B' X' T'; (try dsimp only); (try k_fold))
  (repeat' (first | ((fail_if_success (with_reducible first | refine Mine.z1 ?_ | refine Mine.z2 ?_ | refine Mine.z3 ?_ | refine Mine.z4 ?_ | refine Mine.z5 ?_ | refine Mine.z6 ?_ | refine Mine.z7 ?_ | refine Mine.z8 ?_ | refine Mine.z9 ?_ | refine Mine.z10 ?_ | refine Mine.z11 ?_ | refine Mine.z12 ?_ | refine Mine.z13 ?_ | refine Mine.z14 ?_ | refine Mine.z15 ?_ | refine Mine.z16 ?_)); (first | (with_reducible refine Mine.z18 ?_) | (fail_if_success (with_reducible refine Mine.z17 ?_))); (first | (k_unfold; (try dsimp only)) | walk1 | (dsimp only; walk1))) | fail "no step"))
  refine call_isc_str (News.get (by k_asm) (by k_mem)) ?_
  (repeat' (first | ((fail_if_success (with_reducible first | refine Mine.z1 ?_ | refine Mine.z2 ?_ | refine Mine.z3 ?_ | refine Mine.z4 ?_ | refine Mine.z5 ?_ | refine Mine.z6 ?_ | refine Mine.z7 ?_ | refine Mine.z8 ?_ | refine Mine.z9 ?_ | refine Mine.z10 ?_ | refine Mine.z11 ?_ | refine Mine.z12 ?_ | refine Mine.z13 ?_ | refine Mine.z14 ?_ | refine Mine.z15 ?_ | refine Mine.z16 ?_)); (first | (with_reducible refine Mine.z18 ?_) | (fail_if_success (with_reducible refine Mine.z17 ?_))); (first | (k_unfold; (try dsimp only)) | walk1 | (dsimp only; walk1))) | fail "no step"))
  rename_i kF kN _ _
  exact hQ _ _ kF (news_sub kN fun _ h => .tail _ h)
theorem sep_c {prog : Program} {w : World} {p : Program} {loose : List Str} {mean : ExcName → Option Value} {mg mb : Str → Option Value} {dp un : Nat} {gd : Option (List Code)} {env : Env} {A₀ : Around} {outer : List Env} {base h₀ : Heap} {L : Addr} {m : Str → Option Value} {s : Shared} {Q E : Value → Shared → Prop}
   {x : Str} {t1 : Tok}
   (B : Below A₀ base outer h₀) (F : Fr h₀ L s.heap m) (X : (hd.heap_39 w.params).In h₀) (T : Top p loose mean mg mb h₀) (hf : env.frame = some L) (hke : env.scope.kind = .function) (hd : dp < 900) (hu : un < 900) {news : List (Addr × Obj)} (N : News h₀ L s.heap news)
   (hQ : ∀ (h' : Heap) (tk' : Nat) (t : Tok), Fr h₀ L h' m → News h₀ L h' news → Q (.str (Str.ofString "/") t) { s with heap := h', toks := tk' }) :
   wpAny (model prog w) { handled := none, depth := dp, frames := some (env :: outer), guards := gd, units := un } (call (.ref 157) [.str x t1]) Q E s := by
  w_top off
  refine wpAny_call ?_
  k_dflt (refine' code_def ?k1 ?k2 ?k3 ?k4 ?k5 ?kA ?kF ?kK ?k6 ?k7 ?k8 ?k9 ?kB ?_ ?c2 ?c3 ?c4 ?c5; (case kA => exact rfl); (case kF => first | exact rfl | assumption); (case kK => first | exact rfl | assumption); (case k1 => k_asm); (case k2 => k_asm); (case k3 => k_asm); (case k4 => k_asm); (case k5 => k_asm); (case k6 => k_is); (case k7 => k_is); (case k8 => ktr_room); (case k9 => exact BindsTo.of_eq rfl); (case c5 => decide); (case kB => exact locs rfl); (case c2 => exact rfl); (case c3 => exact rfl); (case c4 => exact rfl); k_whole; intro g' L' h' FG' F' N' B' X' T'; (try dsimp only); (try k_fold))
  (repeat' (first | ((fail_if_success (with_reducible first | refine Mine.z1 ?_ | refine Mine.z2 ?_ | refine Mine.z3 ?_ | refine Mine.z4 ?_ | refine Mine.z5 ?_ | refine Mine.z6 ?_ | refine Mine.z7 ?_ | refine Mine.z8 ?_ | refine Mine.z9 ?_ | refine Mine.z10 ?_ | refine Mine.z11 ?_ | refine Mine.z12 ?_ | refine Mine.z13 ?_ | refine Mine.z14 ?_ | refine Mine.z15 ?_ | refine Mine.z16 ?_)); (first | (with_reducible refine Mine.z18 ?_) | (fail_if_success (with_reducible refine Mine.z17 ?_))); (first | (k_unfold; (try dsimp only)) | walk1 | (dsimp only; walk1))) | fail "no step"))
  exact hQ _ _ _ (by assumption) (by assumption)
end Mine

namespace Mine
theorem join_c {prog : Program} {w : World} {p : Program} {loose : List Str} {mean : ExcName → Option Value} {mg mb : Str → Option Value} {dp un : Nat} {gd : Option (List Code)} {env : Env} {A₀ : Around} {outer : List Env} {base h₀ : Heap} {L : Addr} {m : Str → Option Value} {s : Shared} {Q E : Value → Shared → Prop}
   {x y : Str} {t1 t2 : Tok}
   (B : Below A₀ base outer h₀) (F : Fr h₀ L s.heap m) (X : (hd.heap_39 w.params).In h₀) (T : Top p loose mean mg mb h₀) (hf : env.frame = some L) (hke : env.scope.kind = .function) (hd : dp < 890) (hu : un < 890) {news : List (Addr × Obj)} (N : News h₀ L s.heap news) (hx0 : x.length ≠ 0) (hxz : x.length < 100) (hyz : y.length < 100) (hy : Txt.startswith y (Str.ofString "/") = false)
   (hQ : ∀ (h' : Heap) (tk' : Nat) (t : Tok), Fr h₀ L h' m → News h₀ L h' news → Q (.str (if Txt.endswith x (Str.ofString "/") = true then x ++ y else x ++ (Str.ofString "/" ++ y)) t) { s with heap := h', toks := tk' }) :
   wpAny (model prog w) { handled := none, depth := dp, frames := some (env :: outer), guards := gd, units := un } (call (.ref 164) [.str x t1, .str y t2]) Q E s := by
  w_top off
  refine wpAny_call ?_
  k_dflt (refine' kp_rest ?k1 ?k2 ?k3 ?k4 ?k5 ?kA ?kF ?kK ?k6 ?k7 ?k8 ?kV ?kP ?kG ?kB ?_ ?c2 ?c3 ?c4 ?c5; (case kA => exact rfl); (case kF => first | exact rfl | assumption); (case kK => first | exact rfl | assumption); (case k1 => k_asm); (case k2 => k_asm); (case k3 => k_asm); (case k4 => k_asm); (case k5 => k_asm); (case k6 => k_is); (case k7 => k_is); (case k8 => ktr_room); (case kV => kl_lit); (case kP => exact rfl); (case kG => exact fun _ => rfl); (case kB => exact fun _ => locs rfl); (case c5 => decide); (case c2 => exact rfl); (case c3 => exact rfl); (case c4 => exact rfl); k_whole; intro D' g' L' h' l1 FG' F' N' B' X' T'; (try dsimp only); (try k_fold))
  (repeat' (first | ((fail_if_success (with_reducible first | refine Mine.z1 ?_ | refine Mine.z2 ?_ | refine Mine.z3 ?_ | refine Mine.z4 ?_ | refine Mine.z5 ?_ | refine Mine.z6 ?_ | refine Mine.z7 ?_ | refine Mine.z8 ?_ | refine Mine.z9 ?_ | refine Mine.z10 ?_ | refine Mine.z11 ?_ | refine Mine.z12 ?_ | refine Mine.z13 ?_ | refine Mine.z14 ?_ | refine Mine.z15 ?_ | refine Mine.z16 ?_)); (first | (with_reducible refine Mine.z18 ?_) | (fail_if_success (with_reducible refine Mine.z17 ?_))); (first | (k_unfold; (try dsimp only)) | walk1 | (dsimp only; walk1))) | fail "no step"))
  refine fspath_c (by k_asm) (by k_asm) (by k_asm) (by k_asm) rfl rfl (by ktr_room) (by ktr_units) (by k_asm) fun h2 tk2 F2 N2 => ?_
  (repeat' (first | ((fail_if_success (with_reducible first | refine Mine.z1 ?_ | refine Mine.z2 ?_ | refine Mine.z3 ?_ | refine Mine.z4 ?_ | refine Mine.z5 ?_ | refine Mine.z6 ?_ | refine Mine.z7 ?_ | refine Mine.z8 ?_ | refine Mine.z9 ?_ | refine Mine.z10 ?_ | refine Mine.z11 ?_ | refine Mine.z12 ?_ | refine Mine.z13 ?_ | refine Mine.z14 ?_ | refine Mine.z15 ?_ | refine Mine.z16 ?_)); (first | (with_reducible refine Mine.z18 ?_) | (fail_if_success (with_reducible refine Mine.z17 ?_))); (first | (k_unfold; (try dsimp only)) | walk1 | (dsimp only; walk1))) | fail "no step"))
  refine sep_c (by k_asm) (by k_asm) (by k_asm) (by k_asm) rfl rfl (by ktr_room) (by ktr_units) (by k_asm) fun h3 tk3 t3 F3 N3 => ?_
  (repeat' (first | ((fail_if_success (with_reducible first | refine Mine.z1 ?_ | refine Mine.z2 ?_ | refine Mine.z3 ?_ | refine Mine.z4 ?_ | refine Mine.z5 ?_ | refine Mine.z6 ?_ | refine Mine.z7 ?_ | refine Mine.z8 ?_ | refine Mine.z9 ?_ | refine Mine.z10 ?_ | refine Mine.z11 ?_ | refine Mine.z12 ?_ | refine Mine.z13 ?_ | refine Mine.z14 ?_ | refine Mine.z15 ?_ | refine Mine.z16 ?_)); (first | (with_reducible refine Mine.z18 ?_) | (fail_if_success (with_reducible refine Mine.z17 ?_))); (first | (k_unfold; (try dsimp only)) | walk1 | (dsimp only; walk1))) | fail "no step"))
  rename_i F4 N4
  obtain ⟨r, hr⟩ : ∃ r, r = if Txt.endswith x (Str.ofString "/") = true then x ++ y else x ++ (Str.ofString "/" ++ y) := ⟨_, rfl⟩
  rw [← hr] at hQ
  refine For_invVF F4 rfl rfl ?_
  (repeat' (first | ((fail_if_success (with_reducible first | refine Mine.z1 ?_ | refine Mine.z2 ?_ | refine Mine.z3 ?_ | refine Mine.z4 ?_ | refine Mine.z5 ?_ | refine Mine.z6 ?_ | refine Mine.z7 ?_ | refine Mine.z8 ?_ | refine Mine.z9 ?_ | refine Mine.z10 ?_ | refine Mine.z11 ?_ | refine Mine.z12 ?_ | refine Mine.z13 ?_ | refine Mine.z14 ?_ | refine Mine.z15 ?_ | refine Mine.z16 ?_)); (first | (with_reducible refine Mine.z18 ?_) | (fail_if_success (with_reducible refine Mine.z17 ?_))); (first | (k_unfold; (try dsimp only)) | walk1 | (dsimp only; walk1))) | fail "no step"))
  refine iter_tuple (fun i m₁ news₁ => news₁ = (D', { cls := .type "tuple", data := .seq (List.toArray [Value.str y t2]) }) :: news ∧ m₁ "sep" = some (.str (Str.ofString "/") t3) ∧ ∃ t, m₁ "path" = some (.str (if i = 0 then x else r) t)) rfl (by assumption) (by assumption) (by k_mem) ⟨rfl, rfl, _, rfl⟩ ?_ ?_
  · rintro i v m₁ news₁ h tk own I oI hv ⟨hn1, e1, t4, e2⟩ hI hlI hown hnI F1 N1
    have hi : i = 0 := by
      have := (List.getElem?_eq_some_iff.mp hv).1
      simp at this; omega
    subst hi
    simp only [List.getElem?_cons_zero, Option.some.injEq] at hv
    subst hv
    rw [if_pos rfl] at e2
    rw [hn1] at N1 hnI
    replace F1 := fr_knowns [("b", .str y t2), ("sep", .str (Str.ofString "/") t3), ("path", .str x t4)] F1 (by
      intro p hp
      simp only [List.mem_cons, List.not_mem_nil, or_false] at hp
      rcases hp with rfl | rfl | rfl
      · exact rfl
      · exact e1
      · exact e2)
    (repeat' (first | ((fail_if_success (with_reducible first | refine Mine.z1 ?_ | refine Mine.z2 ?_ | refine Mine.z3 ?_ | refine Mine.z4 ?_ | refine Mine.z5 ?_ | refine Mine.z6 ?_ | refine Mine.z7 ?_ | refine Mine.z8 ?_ | refine Mine.z9 ?_ | refine Mine.z10 ?_ | refine Mine.z11 ?_ | refine Mine.z12 ?_ | refine Mine.z13 ?_ | refine Mine.z14 ?_ | refine Mine.z15 ?_ | refine Mine.z16 ?_)); (first | (with_reducible refine Mine.z18 ?_) | (fail_if_success (with_reducible refine Mine.z17 ?_))); (first | (k_unfold; (try dsimp only)) | walk1 | (dsimp only; walk1))) | fail "no step"))
    refine fspath_c (by k_asm) (by k_asm) (by k_asm) (by k_asm) rfl rfl (by ktr_room) (by ktr_units) (by k_asm) fun h5 tk5 F5 N5 => ?_
    (repeat' (first | ((fail_if_success (with_reducible first | refine Mine.z1 ?_ | refine Mine.z2 ?_ | refine Mine.z3 ?_ | refine Mine.z4 ?_ | refine Mine.z5 ?_ | refine Mine.z6 ?_ | refine Mine.z7 ?_ | refine Mine.z8 ?_ | refine Mine.z9 ?_ | refine Mine.z10 ?_ | refine Mine.z11 ?_ | refine Mine.z12 ?_ | refine Mine.z13 ?_ | refine Mine.z14 ?_ | refine Mine.z15 ?_ | refine Mine.z16 ?_)); (first | (with_reducible refine Mine.z18 ?_) | (fail_if_success (with_reducible refine Mine.z17 ?_))); (first | (k_unfold; (try dsimp only)) | walk1 | (dsimp only; walk1))) | fail "no step"))
    · rename Txt.endswith x _ = true => hq
      have hr' : r = x ++ y := by rw [hr, if_pos hq]
      subst hr'
      exact ⟨_, _, _, _, rfl, by assumption, by assumption, hnI, rfl, rfl, _, rfl⟩
    · rename Txt.endswith x _ = false => hq
      have hr' : r = x ++ (Str.ofString "/" ++ y) := by rw [hr, if_neg (by rw [hq]; exact Bool.false_ne_true)]
      subst hr'
      exact ⟨_, _, _, _, rfl, by assumption, by assumption, hnI, rfl, rfl, _, rfl⟩
    · exfalso; omega
  · rintro m₁ news₁ h tk ⟨hn1, e1, t4, e2⟩ F1 N1
    rw [hn1] at N1
    replace F1 := fr_knowns [("path", .str r t4)] F1 (by
      intro p hp
      simp only [List.mem_cons, List.not_mem_nil, or_false] at hp
      subst hp
      exact e2)
    dsimp only
    (repeat' (first | ((fail_if_success (with_reducible first | refine Mine.z1 ?_ | refine Mine.z2 ?_ | refine Mine.z3 ?_ | refine Mine.z4 ?_ | refine Mine.z5 ?_ | refine Mine.z6 ?_ | refine Mine.z7 ?_ | refine Mine.z8 ?_ | refine Mine.z9 ?_ | refine Mine.z10 ?_ | refine Mine.z11 ?_ | refine Mine.z12 ?_ | refine Mine.z13 ?_ | refine Mine.z14 ?_ | refine Mine.z15 ?_ | refine Mine.z16 ?_)); (first | (with_reducible refine Mine.z18 ?_) | (fail_if_success (with_reducible refine Mine.z17 ?_))); (first | (k_unfold; (try dsimp only)) | walk1 | (dsimp only; walk1))) | fail "no step"))
    rename_i kF kN _ _
    exact hQ _ _ _ kF (news_sub kN fun _ h => .tail _ h)
end Mine

namespace Mine
theorem basename_c {prog : Program} {w : World} {p : Program} {loose : List Str} {mean : ExcName → Option Value} {mg mb : Str → Option Value} {dp un : Nat} {gd : Option (List Code)} {env : Env} {A₀ : Around} {outer : List Env} {base h₀ : Heap} {L : Addr} {m : Str → Option Value} {s : Shared} {Q E : Value → Shared → Prop}
   {x : Str} {t1 : Tok}
   (B : Below A₀ base outer h₀) (F : Fr h₀ L s.heap m) (X : (hd.heap_39 w.params).In h₀) (T : Top p loose mean mg mb h₀) (hf : env.frame = some L) (hke : env.scope.kind = .function) (hd : dp < 890) (hu : un < 890) {news : List (Addr × Obj)} (N : News h₀ L s.heap news) (hxz : x.length < 100)
   (hQ : ∀ (h' : Heap) (tk' : Nat) (t : Tok), Fr h₀ L h' m → News h₀ L h' news → Q (.str (baseS x) t) { s with heap := h', toks := tk' }) :
   wpAny (model prog w) { handled := none, depth := dp, frames := some (env :: outer), guards := gd, units := un } (call (.ref 171) [.str x t1]) Q E s := by
  w_top off
  refine wpAny_call ?_
  k_dflt (refine' code_def ?k1 ?k2 ?k3 ?k4 ?k5 ?kA ?kF ?kK ?k6 ?k7 ?k8 ?k9 ?kB ?_ ?c2 ?c3 ?c4 ?c5; (case kA => exact rfl); (case kF => first | exact rfl | assumption); (case kK => first | exact rfl | assumption); (case k1 => k_asm); (case k2 => k_asm); (case k3 => k_asm); (case k4 => k_asm); (case k5 => k_asm); (case k6 => k_is); (case k7 => k_is); (case k8 => ktr_room); (case k9 => exact BindsTo.of_eq rfl); (case c5 => decide); (case kB => exact locs rfl); (case c2 => exact rfl); (case c3 => exact rfl); (case c4 => exact rfl); k_whole; intro g' L' h' FG' F' N' B' X' T'; (try dsimp only); (try k_fold))
  (repeat' (first | ((fail_if_success (with_reducible first | refine Mine.z1 ?_ | refine Mine.z2 ?_ | refine Mine.z3 ?_ | refine Mine.z4 ?_ | refine Mine.z5 ?_ | refine Mine.z6 ?_ | refine Mine.z7 ?_ | refine Mine.z8 ?_ | refine Mine.z9 ?_ | refine Mine.z10 ?_ | refine Mine.z11 ?_ | refine Mine.z12 ?_ | refine Mine.z13 ?_ | refine Mine.z14 ?_ | refine Mine.z15 ?_ | refine Mine.z16 ?_)); (first | (with_reducible refine Mine.z18 ?_) | (fail_if_success (with_reducible refine Mine.z17 ?_))); (first | (k_unfold; (try dsimp only)) | walk1 | (dsimp only; walk1))) | fail "no step"))
  refine fspath_c (by k_asm) (by k_asm) (by k_asm) (by k_asm) rfl rfl (by ktr_room) (by ktr_units) (by k_asm) fun h2 tk2 F2 N2 => ?_
  (repeat' (first | ((fail_if_success (with_reducible first | refine Mine.z1 ?_ | refine Mine.z2 ?_ | refine Mine.z3 ?_ | refine Mine.z4 ?_ | refine Mine.z5 ?_ | refine Mine.z6 ?_ | refine Mine.z7 ?_ | refine Mine.z8 ?_ | refine Mine.z9 ?_ | refine Mine.z10 ?_ | refine Mine.z11 ?_ | refine Mine.z12 ?_ | refine Mine.z13 ?_ | refine Mine.z14 ?_ | refine Mine.z15 ?_ | refine Mine.z16 ?_)); (first | (with_reducible refine Mine.z18 ?_) | (fail_if_success (with_reducible refine Mine.z17 ?_))); (first | (k_unfold; (try dsimp only)) | walk1 | (dsimp only; walk1))) | fail "no step"))
  refine sep_c (by k_asm) (by k_asm) (by k_asm) (by k_asm) rfl rfl (by ktr_room) (by ktr_units) (by k_asm) fun h3 tk3 t3 F3 N3 => ?_
  (repeat' (first | ((fail_if_success (with_reducible first | refine Mine.z1 ?_ | refine Mine.z2 ?_ | refine Mine.z3 ?_ | refine Mine.z4 ?_ | refine Mine.z5 ?_ | refine Mine.z6 ?_ | refine Mine.z7 ?_ | refine Mine.z8 ?_ | refine Mine.z9 ?_ | refine Mine.z10 ?_ | refine Mine.z11 ?_ | refine Mine.z12 ?_ | refine Mine.z13 ?_ | refine Mine.z14 ?_ | refine Mine.z15 ?_ | refine Mine.z16 ?_)); (first | (with_reducible refine Mine.z18 ?_) | (fail_if_success (with_reducible refine Mine.z17 ?_))); (first | (k_unfold; (try dsimp only)) | walk1 | (dsimp only; walk1))) | fail "no step"))
  exact hQ _ _ _ (by assumption) (by assumption)
theorem dirname_c {prog : Program} {w : World} {p : Program} {loose : List Str} {mean : ExcName → Option Value} {mg mb : Str → Option Value} {dp un : Nat} {gd : Option (List Code)} {env : Env} {A₀ : Around} {outer : List Env} {base h₀ : Heap} {L : Addr} {m : Str → Option Value} {s : Shared} {Q E : Value → Shared → Prop}
   {x : Str} {t1 : Tok}
   (B : Below A₀ base outer h₀) (F : Fr h₀ L s.heap m) (X : (hd.heap_39 w.params).In h₀) (T : Top p loose mean mg mb h₀) (hf : env.frame = some L) (hke : env.scope.kind = .function) (hd : dp < 890) (hu : un < 890) {news : List (Addr × Obj)} (N : News h₀ L s.heap news) (hxz : x.length < 100)
   (hQ : ∀ (h' : Heap) (tk' : Nat) (t : Tok), Fr h₀ L h' m → News h₀ L h' news → Q (.str (dirS x) t) { s with heap := h', toks := tk' }) :
   wpAny (model prog w) { handled := none, depth := dp, frames := some (env :: outer), guards := gd, units := un } (call (.ref 178) [.str x t1]) Q E s := by
  w_top off
  refine wpAny_call ?_
  k_dflt (refine' code_def ?k1 ?k2 ?k3 ?k4 ?k5 ?kA ?kF ?kK ?k6 ?k7 ?k8 ?k9 ?kB ?_ ?c2 ?c3 ?c4 ?c5; (case kA => exact rfl); (case kF => first | exact rfl | assumption); (case kK => first | exact rfl | assumption); (case k1 => k_asm); (case k2 => k_asm); (case k3 => k_asm); (case k4 => k_asm); (case k5 => k_asm); (case k6 => k_is); (case k7 => k_is); (case k8 => ktr_room); (case k9 => exact BindsTo.of_eq rfl); (case c5 => decide); (case kB => exact locs rfl); (case c2 => exact rfl); (case c3 => exact rfl); (case c4 => exact rfl); k_whole; intro g' L' h' FG' F' N' B' X' T'; (try dsimp only); (try k_fold))
  (repeat' (first | ((fail_if_success (with_reducible first | refine Mine.z1 ?_ | refine Mine.z2 ?_ | refine Mine.z3 ?_ | refine Mine.z4 ?_ | refine Mine.z5 ?_ | refine Mine.z6 ?_ | refine Mine.z7 ?_ | refine Mine.z8 ?_ | refine Mine.z9 ?_ | refine Mine.z10 ?_ | refine Mine.z11 ?_ | refine Mine.z12 ?_ | refine Mine.z13 ?_ | refine Mine.z14 ?_ | refine Mine.z15 ?_ | refine Mine.z16 ?_)); (first | (with_reducible refine Mine.z18 ?_) | (fail_if_success (with_reducible refine Mine.z17 ?_))); (first | (k_unfold; (try dsimp only)) | walk1 | (dsimp only; walk1))) | fail "no step"))
  refine fspath_c (by k_asm) (by k_asm) (by k_asm) (by k_asm) rfl rfl (by ktr_room) (by ktr_units) (by k_asm) fun h2 tk2 F2 N2 => ?_
  (repeat' (first | ((fail_if_success (with_reducible first | refine Mine.z1 ?_ | refine Mine.z2 ?_ | refine Mine.z3 ?_ | refine Mine.z4 ?_ | refine Mine.z5 ?_ | refine Mine.z6 ?_ | refine Mine.z7 ?_ | refine Mine.z8 ?_ | refine Mine.z9 ?_ | refine Mine.z10 ?_ | refine Mine.z11 ?_ | refine Mine.z12 ?_ | refine Mine.z13 ?_ | refine Mine.z14 ?_ | refine Mine.z15 ?_ | refine Mine.z16 ?_)); (first | (with_reducible refine Mine.z18 ?_) | (fail_if_success (with_reducible refine Mine.z17 ?_))); (first | (k_unfold; (try dsimp only)) | walk1 | (dsimp only; walk1))) | fail "no step"))
  refine sep_c (by k_asm) (by k_asm) (by k_asm) (by k_asm) rfl rfl (by ktr_room) (by ktr_units) (by k_asm) fun h3 tk3 t3 F3 N3 => ?_
  (repeat' (first | ((fail_if_success (with_reducible first | refine Mine.z1 ?_ | refine Mine.z2 ?_ | refine Mine.z3 ?_ | refine Mine.z4 ?_ | refine Mine.z5 ?_ | refine Mine.z6 ?_ | refine Mine.z7 ?_ | refine Mine.z8 ?_ | refine Mine.z9 ?_ | refine Mine.z10 ?_ | refine Mine.z11 ?_ | refine Mine.z12 ?_ | refine Mine.z13 ?_ | refine Mine.z14 ?_ | refine Mine.z15 ?_ | refine Mine.z16 ?_)); (first | (with_reducible refine Mine.z18 ?_) | (fail_if_success (with_reducible refine Mine.z17 ?_))); (first | (k_unfold; (try dsimp only)) | walk1 | (dsimp only; walk1))) | fail "no step"))
  · rename ((_ : Int) ≠ 0) => h1
    rename ((_ != _) = true) => h2
    replace h2 : (headS x != Txt.mul (Str.ofString "/") (headS x).length) = true := h2
    have e : dirS x = Txt.rstripChars (headS x) (Str.ofString "/") := by
      unfold dirS
      rw [if_neg (fun q => h1 (by exact_mod_cast q)), if_pos h2]
    show Q (.str (Txt.rstripChars (headS x) (Str.ofString "/")) _) _
    rw [← e]
    exact hQ _ _ _ (by assumption) (by assumption)
  · rename ((_ : Int) ≠ 0) => h1
    rename ((_ != _) = false) => h2
    replace h2 : (headS x != Txt.mul (Str.ofString "/") (headS x).length) = false := h2
    have e : dirS x = headS x := by
      unfold dirS
      rw [if_neg (fun q => h1 (by exact_mod_cast q)), if_neg (fun q => Bool.false_ne_true (h2.symm.trans q))]
    show Q (.str (headS x) _) _
    rw [← e]
    exact hQ _ _ _ (by assumption) (by assumption)
  · rename ((_ : Int) = 0) => h1
    have e : dirS x = headS x := by
      unfold dirS
      rw [if_pos (by exact_mod_cast h1)]
    show Q (.str (headS x) _) _
    rw [← e]
    exact hQ _ _ _ (by assumption) (by assumption)
end Mine

namespace Mine
theorem tree_c {prog : Program} {w : World} {p : Program} {loose : List Str} {mean : ExcName → Option Value} {mg mb : Str → Option Value} {dp un : Nat} {gd : Option (List Code)} {env : Env} {A₀ : Around} {outer : List Env} {base h₀ : Heap} {L : Addr} {m : Str → Option Value} {s : Shared} {Q E : Value → Shared → Prop}
   {l : Addr} {ws : List Value} {ns : List Int} {c : Nat}
   (B : Below A₀ base outer h₀) (F : Fr h₀ L s.heap m) (X : (hd.heap_39 w.params).In h₀) (T : Top p loose mean mg mb h₀) (hf : env.frame = some L) (hke : env.scope.kind = .function) (hd : dp < 890) (hu : un < 890) {news : List (Addr × Obj)} (N : News h₀ L s.heap news) (hl : (l, listOf ws.toArray c) ∈ news) (hi : IntsAre ws ns) (hn : ns.length ≤ 11)
   (hQ : ∀ (h' : Heap) (tk' : Nat) (t : Addr) ts ct own pss, Fr h₀ L h' m → News h₀ L h' ((t, listOf (List.toArray ts) ct) :: (own ++ news)) → (∀ p ∈ own ++ news, p.1 ≠ t) → TreeOk own ts pss → (∀ n ∈ ns, pathOf n ∈ pss) → (∀ p ∈ own, ∀ q ∈ news, p.1 ≠ q.1) → Q (.ref t) { s with heap := h', toks := tk' }) :
   wpAny (model prog w) { handled := none, depth := dp, frames := some (env :: outer), guards := gd, units := un } (call (.ref 188) [.ref l]) Q E s := by
  w_top off
  refine wpAny_call ?_
  k_dflt (refine' code_defC ?k1 ?k2 ?k3 ?k4 ?k5 ?kA ?kF ?kK ?k6 ?k7 ?k8 ?k9 ?kB ?kD ?_ ?c2 ?c3 ?c4; (case kA => exact rfl); (case kF => first | exact rfl | assumption); (case kK => first | exact rfl | assumption); (case k1 => k_asm); (case k2 => k_asm); (case k3 => k_asm); (case k4 => k_asm); (case k5 => k_asm); (case k6 => k_is); (case k7 => k_is); (case k8 => ktr_room); (case k9 => exact BindsTo.of_eq rfl); (case kB => exact rfl); (case kD => decide +kernel); (case c2 => exact rfl); (case c3 => exact rfl); (case c4 => exact rfl); k_whole; intro g' L' h' tk' cells' FG' F' N' Y' B' X' T' l1; k_cells Y'; (try simp only [List.cons_append, List.nil_append] at N'); (try dsimp only); (try k_fold))
  (repeat' (first | ((fail_if_success (with_reducible first | refine Mine.z1 ?_ | refine Mine.z2 ?_ | refine Mine.z3 ?_ | refine Mine.z4 ?_ | refine Mine.z5 ?_ | refine Mine.z6 ?_ | refine Mine.z7 ?_ | refine Mine.z8 ?_ | refine Mine.z9 ?_ | refine Mine.z10 ?_ | refine Mine.z11 ?_ | refine Mine.z12 ?_ | refine Mine.z13 ?_ | refine Mine.z14 ?_ | refine Mine.z15 ?_ | refine Mine.z16 ?_)); (first | (with_reducible refine Mine.z18 ?_) | (fail_if_success (with_reducible refine Mine.z17 ?_))); (first | (k_unfold; (try dsimp only)) | walk1 | (dsimp only; walk1))) | fail "no step"))
  refine For_G (by k_asm) ?_
  (repeat' (first | ((fail_if_success (with_reducible first | refine Mine.z1 ?_ | refine Mine.z2 ?_ | refine Mine.z3 ?_ | refine Mine.z4 ?_ | refine Mine.z5 ?_ | refine Mine.z6 ?_ | refine Mine.z7 ?_ | refine Mine.z8 ?_ | refine Mine.z9 ?_ | refine Mine.z10 ?_ | refine Mine.z11 ?_ | refine Mine.z12 ?_ | refine Mine.z13 ?_ | refine Mine.z14 ?_ | refine Mine.z15 ?_ | refine Mine.z16 ?_)); (first | (with_reducible refine Mine.z18 ?_) | (fail_if_success (with_reducible refine Mine.z17 ?_))); (first | (k_unfold; (try dsimp only)) | walk1 | (dsimp only; walk1))) | fail "no step"))
  rename_i oX dX T hA lt1 h1 F1 N1
  have offT : ∀ p ∈ news, p.1 ≠ T ∧ p.1 ≠ L' + 1 := fun p hp => by
    have := l1 p hp
    have h2 := lt1.1
    exact ⟨Nat.ne_of_lt (Nat.lt_trans this (Nat.lt_of_succ_lt h2)), Nat.ne_of_lt (Nat.lt_succ_of_lt this)⟩
  refine iterG_list (TreeJ news l T (L' + 1) ns) rfl F1 N1 (.tail _ (.tail _ hl)) ⟨[], 0, [], oX, [], _, rfl, dX, by rfl, by rfl, offT, TreeOk.nil, by simp, by simp⟩ ?_ ?_
  · rintro i v m₁ news₁ h2 tk2 own I oI hv ⟨ts, ct, own1, oX1, pss, cv, rfl, hcv, m1, m2, offT1, OK, hin, hap⟩ hIn hlt hIlt hown hoffI F2 N2
    obtain ⟨x, tx, rfl, hx⟩ := hi.at i v hv
    have F3 := fr_knowns [(Str.ofString "numbers", Value.ref l), (Str.ofString "tree", Value.ref T)] F2 (known_cons m1 (known_cons m2 known_nil))
    have N3 := news_sub (news' := (T, listOf (List.toArray ts) ct) :: (L' + 1, oX1) :: (own ++ (own1 ++ news))) N2 (by tb_start)
    have offR : ∀ p ∈ own ++ (own1 ++ news), p.1 ≠ T ∧ p.1 ≠ L' + 1 := fun p hp => by
      rcases List.mem_append.mp hp with h | h
      · have hT := hIlt _ (.head _)
        have hX := hIlt _ (.tail _ (.head _))
        rcases hown p h with e | e
        · exact ⟨by rw [e]; exact Nat.ne_of_gt hT, by rw [e]; exact Nat.ne_of_gt hX⟩
        · have := offT _ hl
          exact ⟨by rw [e]; exact this.1, by rw [e]; exact this.2⟩
      · exact offT1 p h
    generalize hrr : own ++ (own1 ++ news) = rest at N3 offR
    clear F2 N2 F1 N1
    dsimp only [List.lookup] at F3
    (repeat' (first | ((fail_if_success (with_reducible first | refine Mine.z1 ?_ | refine Mine.z2 ?_ | refine Mine.z3 ?_ | refine Mine.z4 ?_ | refine Mine.z5 ?_ | refine Mine.z6 ?_ | refine Mine.z7 ?_ | refine Mine.z8 ?_ | refine Mine.z9 ?_ | refine Mine.z10 ?_ | refine Mine.z11 ?_ | refine Mine.z12 ?_ | refine Mine.z13 ?_ | refine Mine.z14 ?_ | refine Mine.z15 ?_ | refine Mine.z16 ?_)); (first | (with_reducible refine Mine.z18 ?_) | (fail_if_success (with_reducible refine Mine.z17 ?_))); (first | (k_unfold; (try dsimp only)) | walk1 | (dsimp only; walk1))) | fail "no step"))
    have hXT : L' + 1 ≠ T := Nat.ne_of_lt lt1.1
    refine storeX_C F3 N3 rfl (UpdF.tail (Ne.symm hXT) (UpdF.head fun p hp => (offR p hp).2)) hcv (fun h3 oX2 F4 N4 hcv2 => ?_) rfl rfl
    clear F3 N3 hcv
    (try dsimp only)
    k_unmd
    (repeat' (first | ((fail_if_success (with_reducible first | refine Mine.z1 ?_ | refine Mine.z2 ?_ | refine Mine.z3 ?_ | refine Mine.z4 ?_ | refine Mine.z5 ?_ | refine Mine.z6 ?_ | refine Mine.z7 ?_ | refine Mine.z8 ?_ | refine Mine.z9 ?_ | refine Mine.z10 ?_ | refine Mine.z11 ?_ | refine Mine.z12 ?_ | refine Mine.z13 ?_ | refine Mine.z14 ?_ | refine Mine.z15 ?_ | refine Mine.z16 ?_)); (first | (with_reducible refine Mine.z18 ?_) | (fail_if_success (with_reducible refine Mine.z17 ?_))); (first | (k_unfold; (try dsimp only)) | walk1 | (dsimp only; walk1))) | fail "no step"))
    refine LCg.Assign_ListComp_U (F₀ := by k_asm) (by rfl) (by with_unfolding_all rfl) (by with_unfolding_all rfl) (by decide) (by rfl) (by decide) (by rfl) (by rfl) (by rfl) ?_
    (repeat' (first | ((fail_if_success (with_reducible first | refine Mine.z1 ?_ | refine Mine.z2 ?_ | refine Mine.z3 ?_ | refine Mine.z4 ?_ | refine Mine.z5 ?_ | refine Mine.z6 ?_ | refine Mine.z7 ?_ | refine Mine.z8 ?_ | refine Mine.z9 ?_ | refine Mine.z10 ?_ | refine Mine.z11 ?_ | refine Mine.z12 ?_ | refine Mine.z13 ?_ | refine Mine.z14 ?_ | refine Mine.z15 ?_ | refine Mine.z16 ?_)); (first | (with_reducible refine Mine.z18 ?_) | (fail_if_success (with_reducible refine Mine.z17 ?_))); (first | (k_unfold; (try dsimp only)) | walk1 | (dsimp only; walk1))) | fail "no step"))
    have hr3 : ∃ r : Nat, x.fmod 3 = (r : Int) ∧ r < 3 := ⟨(x.fmod 3).toNat, by
      have := Int.fmod_nonneg_of_pos x (b := 3) (by first | grind | omega); omega, by
      have := Int.fmod_lt_of_pos x (b := 3) (by first | grind | omega); omega⟩
    obtain ⟨r, hr, hr3⟩ := hr3
    have hsm : Builtin.Range.small 0 (1 + x.fmod 3) 1 = true ∧ Builtin.Range.rangeSize 0 (1 + x.fmod 3) 1 = ((1 + r : Nat) : Int) := by
      rw [hr]
      have : r = 0 ∨ r = 1 ∨ r = 2 := by first | grind | omega
      rcases this with rfl | rfl | rfl <;> decide
    refine LCg.CompSrc.range rfl (by k_asm) (by k_asm) (by assumption) hsm.1 hsm.2 (by rw [sizeLine_eq]; omega) fun g => ?_
    rename_i N5
    have offR2 : 1 = 1 := rfl
    refine rest_of (1 + r) (fun i ys nw => StrsAre ys ((List.range i).map fun k => nm (dgt x k)) ∧ nw = (T, W.listOf ts.toArray ct) :: (L' + 1, oX2) :: rest) ?_ ?_ _ 0 [] _ (by first | grind | omega) ⟨.nil, rfl⟩
    · rintro i2 ys news2 v I2 oI2 C oC D m2 h5 tk5 E' hi2 ⟨hys, rfl⟩ ⟨tv, rfl⟩ hoC hm2 F6 N6 off6 ne6
      have hpw : (3 : Int) ^ (0 + (i2 : Int)).toNat ≠ 0 ∧ ((3 : Int) ^ (0 + (i2 : Int)).toNat).natAbs < 1073741824 ∧ (3 : Int) ^ (0 + (i2 : Int)).toNat = 3 ^ i2 := by
        have : i2 = 0 ∨ i2 = 1 ∨ i2 = 2 := by first | grind | omega
        rcases this with rfl | rfl | rfl <;> decide
      (repeat' (first | ((fail_if_success (with_reducible first | refine Mine.z1 ?_ | refine Mine.z2 ?_ | refine Mine.z3 ?_ | refine Mine.z4 ?_ | refine Mine.z5 ?_ | refine Mine.z6 ?_ | refine Mine.z7 ?_ | refine Mine.z8 ?_ | refine Mine.z9 ?_ | refine Mine.z10 ?_ | refine Mine.z11 ?_ | refine Mine.z12 ?_ | refine Mine.z13 ?_ | refine Mine.z14 ?_ | refine Mine.z15 ?_ | refine Mine.z16 ?_)); (first | (with_reducible refine Mine.z18 ?_) | (fail_if_success (with_reducible refine Mine.z17 ?_))); (first | (k_unfold; (try dsimp only)) | walk1 | (dsimp only; walk1))) | fail "no step"))
      have hix := fmod3 ((x.fdiv 3).fdiv (3 ^ (0 + (i2 : Int)).toNat))
      obtain ⟨tq, hq3⟩ := lit3 (e := (((x.fdiv 3).fdiv (3 ^ (0 + (i2 : Int)).toNat)).fmod 3).toNat) hix.2
      rename News _ _ _ _ => N7
      rename Fr _ _ _ _ => F7
      refine item_at (N7 _ (.head _)).1 hix.1 hq3 (by simp) ?_
      refine LCg.CompEnd.intro F7 N7 ((T, W.listOf ts.toArray ct) :: (L' + 1, oX2) :: rest) (fun p hp => .tail _ hp) off6 trivial ⟨?_, rfl⟩
      rw [List.range_succ, List.map_append]
      refine hys.append' ?_
      rw [hpw.2.2]
      exact .cons _ _ .nil
    · rintro ys _ ⟨hys, rfl⟩ D h6 tk6 F7 N7 o1
      have N8 : News g' L' h6 ((D, W.listOf ys.toArray ys.length) :: (T, W.listOf ts.toArray ct) :: (L' + 1, oX2) :: rest) := N7
      have hyl : ys.length = 1 + r := by rw [hys.len_eq]; simp
      have offD : ∀ p ∈ (T, W.listOf ts.toArray ct) :: (L' + 1, oX2) :: rest, p.1 ≠ D := off1_mem o1
      clear N7 o1
      (try dsimp only)
      k_unmd
      (repeat' (first | ((fail_if_success (with_reducible first | refine Mine.z1 ?_ | refine Mine.z2 ?_ | refine Mine.z3 ?_ | refine Mine.z4 ?_ | refine Mine.z5 ?_ | refine Mine.z6 ?_ | refine Mine.z7 ?_ | refine Mine.z8 ?_ | refine Mine.z9 ?_ | refine Mine.z10 ?_ | refine Mine.z11 ?_ | refine Mine.z12 ?_ | refine Mine.z13 ?_ | refine Mine.z14 ?_ | refine Mine.z15 ?_ | refine Mine.z16 ?_)); (first | (with_reducible refine Mine.z18 ?_) | (fail_if_success (with_reducible refine Mine.z17 ?_))); (first | (k_unfold; (try dsimp only)) | walk1 | (dsimp only; walk1))) | fail "no step"))
      refine For_G (by k_asm) ?_
      (repeat' (first | ((fail_if_success (with_reducible first | refine Mine.z1 ?_ | refine Mine.z2 ?_ | refine Mine.z3 ?_ | refine Mine.z4 ?_ | refine Mine.z5 ?_ | refine Mine.z6 ?_ | refine Mine.z7 ?_ | refine Mine.z8 ?_ | refine Mine.z9 ?_ | refine Mine.z10 ?_ | refine Mine.z11 ?_ | refine Mine.z12 ?_ | refine Mine.z13 ?_ | refine Mine.z14 ?_ | refine Mine.z15 ?_ | refine Mine.z16 ?_)); (first | (with_reducible refine Mine.z18 ?_) | (fail_if_success (with_reducible refine Mine.z17 ?_))); (first | (k_unfold; (try dsimp only)) | walk1 | (dsimp only; walk1))) | fail "no step"))
      refine len_at (N8 _ (.head _)).1 (by first | grind | omega) ?_
      (try dsimp only)
      k_unmd
      (repeat' (first | ((fail_if_success (with_reducible first | refine Mine.z1 ?_ | refine Mine.z2 ?_ | refine Mine.z3 ?_ | refine Mine.z4 ?_ | refine Mine.z5 ?_ | refine Mine.z6 ?_ | refine Mine.z7 ?_ | refine Mine.z8 ?_ | refine Mine.z9 ?_ | refine Mine.z10 ?_ | refine Mine.z11 ?_ | refine Mine.z12 ?_ | refine Mine.z13 ?_ | refine Mine.z14 ?_ | refine Mine.z15 ?_ | refine Mine.z16 ?_)); (first | (with_reducible refine Mine.z18 ?_) | (fail_if_success (with_reducible refine Mine.z17 ?_))); (first | (k_unfold; (try dsimp only)) | walk1 | (dsimp only; walk1))) | fail "no step"))
      have hsm2 : Builtin.Range.small 1 (((ys.length : Nat) : Int) + 1) 1 = true ∧ Builtin.Range.rangeSize 1 (((ys.length : Nat) : Int) + 1) 1 = ((1 + r : Nat) : Int) := by
        rw [hyl]
        have : r = 0 ∨ r = 1 ∨ r = 2 := by first | grind | omega
        rcases this with rfl | rfl | rfl <;> decide
      rename News _ _ _ _ => N9
      rename Fr _ _ _ _ => F9
      have hTD : T ≠ D := offD _ (.head _)
      have hXD : L' + 1 ≠ D := offD _ (.tail _ (.head _))
      have offA : ∀ p ∈ own ++ (own1 ++ news), p.1 ≠ T ∧ p.1 ≠ L' + 1 ∧ p.1 ≠ D := fun p hp => ⟨(offR p (hrr ▸ hp)).1, (offR p (hrr ▸ hp)).2, offD p (.tail _ (.tail _ (hrr ▸ hp)))⟩
      have offI1 : ∀ p ∈ own1 ++ news, p.1 ≠ I := fun p hp => hoffI p (.tail _ (.tail _ hp))
      have hDI : D ≠ I := Ne.symm (offD _ (.tail _ (.tail _ (hrr ▸ List.mem_append_left _ hIn))))
      have hIr : (I, oI) ∈ own := hIn
      have hpath : pathOf x = (List.range (1 + r)).map (dgt x) := by simp [pathOf, hr]
      refine iterG_range (n := 1 + r) (TreeI news own l T (L' + 1) D I oX2 ys pss (pathOf x)) rfl F9 N9 (by assumption) hsm2.1 hsm2.2 ⟨ts, ct, own1, pss, by rw [hrr], by rfl, by rfl, by rfl, offA, offI1, OK, fun q h => h, by first | grind | omega, hap⟩ ?_ ?_
      · rintro j kk m3 news3 h7 tk7 own3 I3 oI3 hj ⟨ts3, ct3, own4, pss4, rfl, g1, g2, g3, offA3, offI3, OK3, hps, hks, hap3⟩ hI3 hI3lt hown3 hoff3 F10 N10
        clear F9 N9
        (try clear N8); (try clear F4); (try clear N4)
        have F11 := fr_knowns [(Str.ofString "numbers", Value.ref l), (Str.ofString "tree", Value.ref T), (Str.ofString "names", Value.ref D)] F10 (known_cons g1 (known_cons g2 (known_cons g3 known_nil)))
        have N11 := news_sub (news' := (T, listOf (List.toArray ts3) ct3) :: (D, listOf (List.toArray ys) ys.length) :: (L' + 1, oX2) :: (own3 ++ (own ++ (own4 ++ news)))) N10 (by tb_start)
        have offR3 : ∀ p ∈ own3 ++ (own ++ (own4 ++ news)), p.1 ≠ T ∧ p.1 ≠ L' + 1 ∧ p.1 ≠ D := fun p hp => by
          rcases List.mem_append.mp hp with h | h
          · have e := hown3 p h
            have z1 := hI3lt _ (.head _)
            have z2 := hI3lt _ (.tail _ (.head _))
            have z3 := hI3lt _ (.tail _ (.tail _ (.head _)))
            rw [e]
            exact ⟨by first | exact Nat.ne_of_gt z1 | exact Nat.ne_of_gt z2, Nat.ne_of_gt z3, by first | exact Nat.ne_of_gt z1 | exact Nat.ne_of_gt z2⟩
          · exact offA3 p h
        have hs4 : ∀ p ∈ own4, p ∈ own3 ++ (own ++ (own4 ++ news)) := fun p hp => List.mem_append_right _ (List.mem_append_right _ (List.mem_append_left _ hp))
        have hIr3 : (I, oI) ∈ own3 ++ (own ++ (own4 ++ news)) := List.mem_append_right _ (List.mem_append_left _ hIr)
        have hI3r : (I3, oI3) ∈ own3 ++ (own ++ (own4 ++ news)) := List.mem_append_left _ hI3
        clear F10 N10 hI3
        generalize hrr3 : own3 ++ (own ++ (own4 ++ news)) = rest3 at N11 offR3 hs4 hIr3 hI3r
        dsimp only [List.lookup] at F11
        (repeat' (first | ((fail_if_success (with_reducible first | refine Mine.z1 ?_ | refine Mine.z2 ?_ | refine Mine.z3 ?_ | refine Mine.z4 ?_ | refine Mine.z5 ?_ | refine Mine.z6 ?_ | refine Mine.z7 ?_ | refine Mine.z8 ?_ | refine Mine.z9 ?_ | refine Mine.z10 ?_ | refine Mine.z11 ?_ | refine Mine.z12 ?_ | refine Mine.z13 ?_ | refine Mine.z14 ?_ | refine Mine.z15 ?_ | refine Mine.z16 ?_)); (first | (with_reducible refine Mine.z18 ?_) | (fail_if_success (with_reducible refine Mine.z17 ?_))); (first | (k_unfold; (try dsimp only)) | walk1 | (dsimp only; walk1))) | fail "no step"))
        rename_i h8 F12 N12
        refine upto_at (b := j + 1) F12 N12 (N12 _ (.tail _ (.head _))).1 (by first | grind | omega) (by first | grind | omega) (fun D2 h9 F13 N13 lt13 lt13L => ?_)
        clear F12 N12 F11 N11
        (try dsimp only)
        k_unmd
        (repeat' (first | ((fail_if_success (with_reducible first | refine Mine.z1 ?_ | refine Mine.z2 ?_ | refine Mine.z3 ?_ | refine Mine.z4 ?_ | refine Mine.z5 ?_ | refine Mine.z6 ?_ | refine Mine.z7 ?_ | refine Mine.z8 ?_ | refine Mine.z9 ?_ | refine Mine.z10 ?_ | refine Mine.z11 ?_ | refine Mine.z12 ?_ | refine Mine.z13 ?_ | refine Mine.z14 ?_ | refine Mine.z15 ?_ | refine Mine.z16 ?_)); (first | (with_reducible refine Mine.z18 ?_) | (fail_if_success (with_reducible refine Mine.z17 ?_))); (first | (k_unfold; (try dsimp only)) | walk1 | (dsimp only; walk1))) | fail "no step"))
        have hq := path_take (x := x) (j := j) (by rw [hr]; exact hj)
        have hx2 : StrsAre (ys.take (j + 1)) (((pathOf x).take (j + 1)).map nm) := by
          have := hys.take' (j + 1)
          rw [hpath, List.map_take, List.map_map]
          exact this
        refine tree_notin (own := own4) (q := (pathOf x).take (j + 1)) N13 (fun p hp => .tail _ (.tail _ (.tail _ (.tail _ (hs4 p hp))))) OK3 (.tail _ (.head _)) (.head _) hx2 hq.1 (by ktr_units) ?_
        by_cases hm : (pathOf x).take (j + 1) ∈ pss4
        · rw [show decide (¬ (pathOf x).take (j + 1) ∈ pss4) = false by simp [hm]]
          (repeat' (first | ((fail_if_success (with_reducible first | refine Mine.z1 ?_ | refine Mine.z2 ?_ | refine Mine.z3 ?_ | refine Mine.z4 ?_ | refine Mine.z5 ?_ | refine Mine.z6 ?_ | refine Mine.z7 ?_ | refine Mine.z8 ?_ | refine Mine.z9 ?_ | refine Mine.z10 ?_ | refine Mine.z11 ?_ | refine Mine.z12 ?_ | refine Mine.z13 ?_ | refine Mine.z14 ?_ | refine Mine.z15 ?_ | refine Mine.z16 ?_)); (first | (with_reducible refine Mine.z18 ?_) | (fail_if_success (with_reducible refine Mine.z17 ?_))); (first | (k_unfold; (try dsimp only)) | walk1 | (dsimp only; walk1))) | fail "no step"))
          refine turn_next F13 N13 ((D, listOf (List.toArray ys) ys.length) :: (T, listOf (List.toArray ts3) ct3) :: (L' + 1, oX2) :: (own ++ (own4 ++ news))) (fun p hp => ?_) hoff3 ⟨ts3, ct3, own4, pss4, rfl, by rfl, by rfl, by rfl, offA3, offI3, OK3, hps, fun k hk => ?_, hap3⟩
          · rw [← hrr3]
            simp only [List.mem_cons, List.mem_append] at hp ⊢; rcases hp with h | h | h | h | h | h | h <;> simp [h]
          · rcases Nat.lt_succ_iff_lt_or_eq.mp hk with h | rfl
            · exact hks k h
            · exact hm
        · rw [show decide (¬ (pathOf x).take (j + 1) ∈ pss4) = true by simp [hm]]
          (repeat' (first | ((fail_if_success (with_reducible first | refine Mine.z1 ?_ | refine Mine.z2 ?_ | refine Mine.z3 ?_ | refine Mine.z4 ?_ | refine Mine.z5 ?_ | refine Mine.z6 ?_ | refine Mine.z7 ?_ | refine Mine.z8 ?_ | refine Mine.z9 ?_ | refine Mine.z10 ?_ | refine Mine.z11 ?_ | refine Mine.z12 ?_ | refine Mine.z13 ?_ | refine Mine.z14 ?_ | refine Mine.z15 ?_ | refine Mine.z16 ?_)); (first | (with_reducible refine Mine.z18 ?_) | (fail_if_success (with_reducible refine Mine.z17 ?_))); (first | (k_unfold; (try dsimp only)) | walk1 | (dsimp only; walk1))) | fail "no step"))
          refine upto_at (b := j + 1) F13 N13 (N13 _ (.tail _ (.tail _ (.head _)))).1 (by first | grind | omega) (by first | grind | omega) (fun D3 h10 F14 N14 lt14 lt14L => ?_)
          clear F13 N13
          have N15 := news_sub (news' := (T, listOf (List.toArray ts3) ct3) :: (D3, W.listOf (List.take (j + 1) ys).toArray 0) :: (D, listOf (List.toArray ys) ys.length) :: (L' + 1, oX2) :: rest3) N14 (by tb_start)
          have hTD3 : D3 ≠ T := Nat.ne_of_gt (lt14 _ (.tail _ (.head _)))
          have hDD3 : D3 ≠ D := Nat.ne_of_gt (lt14 _ (.tail _ (.tail _ (.head _))))
          have hXD3 : D3 ≠ L' + 1 := Nat.ne_of_gt (lt14 _ (.tail _ (.tail _ (.tail _ (.head _)))))
          have hI13 : D3 ≠ I := Nat.ne_of_gt (lt14 _ (.tail _ (.tail _ (.tail _ (.tail _ hIr3)))))
          have hID3 : D3 ≠ I3 := Nat.ne_of_gt (lt14 _ (.tail _ (.tail _ (.tail _ (.tail _ hI3r)))))
          clear N14
          (try dsimp only)
          k_unmd
          (repeat' (first | ((fail_if_success (with_reducible first | refine Mine.z1 ?_ | refine Mine.z2 ?_ | refine Mine.z3 ?_ | refine Mine.z4 ?_ | refine Mine.z5 ?_ | refine Mine.z6 ?_ | refine Mine.z7 ?_ | refine Mine.z8 ?_ | refine Mine.z9 ?_ | refine Mine.z10 ?_ | refine Mine.z11 ?_ | refine Mine.z12 ?_ | refine Mine.z13 ?_ | refine Mine.z14 ?_ | refine Mine.z15 ?_ | refine Mine.z16 ?_)); (first | (with_reducible refine Mine.z18 ?_) | (fail_if_success (with_reducible refine Mine.z17 ?_))); (first | (k_unfold; (try dsimp only)) | walk1 | (dsimp only; walk1))) | fail "no step"))
          have htl := tree_len OK3
          refine app_at F14 N15 (fun p hp => ?_) (by first | grind | omega) fun h11 F16 N16 => ?_
          · simp only [List.mem_cons] at hp
            rcases hp with rfl | rfl | rfl | h
            · exact hTD3
            · exact Ne.symm hTD
            · exact hXT
            · exact (offR3 p h).1
          (try dsimp only)
          k_unmd
          (repeat' (first | ((fail_if_success (with_reducible first | refine Mine.z1 ?_ | refine Mine.z2 ?_ | refine Mine.z3 ?_ | refine Mine.z4 ?_ | refine Mine.z5 ?_ | refine Mine.z6 ?_ | refine Mine.z7 ?_ | refine Mine.z8 ?_ | refine Mine.z9 ?_ | refine Mine.z10 ?_ | refine Mine.z11 ?_ | refine Mine.z12 ?_ | refine Mine.z13 ?_ | refine Mine.z14 ?_ | refine Mine.z15 ?_ | refine Mine.z16 ?_)); (first | (with_reducible refine Mine.z18 ?_) | (fail_if_success (with_reducible refine Mine.z17 ?_))); (first | (k_unfold; (try dsimp only)) | walk1 | (dsimp only; walk1))) | fail "no step"))
          have hadd := OK3.add (own' := (D3, W.listOf (List.take (j + 1) ys).toArray 0) :: own4) (v := .ref D3) (q := (pathOf x).take (j + 1)) (fun p hp => .tail _ hp) ⟨D3, _, _, rfl, .head _, hx2⟩ hq.1 hm (by
            rw [hq.2]
            rcases Nat.eq_zero_or_pos j with rfl | hj0
            · exact .inl (by simp)
            · obtain ⟨k, rfl⟩ : ∃ k, j = k + 1 := ⟨j - 1, by first | grind | omega⟩
              exact .inr (hks k (by first | grind | omega)))
          refine turn_next F16 N16 ((D, listOf (List.toArray ys) ys.length) :: (T, listOf (List.toArray (ts3 ++ [.ref D3])) (ct3 + 1)) :: (L' + 1, oX2) :: (own ++ (((D3, W.listOf (List.take (j + 1) ys).toArray 0) :: own4) ++ news))) (fun p hp => ?_) (fun p hp => ?_) ⟨_, _, _, _, rfl, by rfl, by rfl, by rfl, fun p hp => ?_, fun p hp => ?_, hadd, fun q hq => List.mem_append_left _ (hps q hq), fun k hk => ?_, fun p hp q hq => ?_⟩
          · rw [← hrr3]
            simp only [List.mem_cons, List.mem_append] at hp ⊢; rcases hp with h | h | h | h | h | (h | h) | h <;> simp [h]
          · simp only [List.mem_cons, List.mem_append] at hp
            rcases hp with rfl | rfl | rfl | h | (rfl | h) | h
            · exact hoff3 _ (.head _)
            · have := hoff3 (T, listOf (List.toArray ts3) ct3) (.tail _ (.head _))
              exact this
            · exact hoff3 _ (.tail _ (.tail _ (.head _)))
            · exact hoff3 p (by simp [h])
            · exact hID3
            · exact hoff3 p (by simp [h])
            · exact hoff3 p (by simp [h])
          · simp only [List.mem_cons, List.mem_append] at hp
            rcases hp with h | (rfl | h) | h
            · exact offA3 p (by simp [h])
            · exact ⟨hTD3, hXD3, hDD3⟩
            · exact offA3 p (by simp [h])
            · exact offA3 p (by simp [h])
          · simp only [List.mem_cons, List.mem_append] at hp
            rcases hp with (rfl | h) | h
            · exact hI13
            · exact offI3 p (by simp [h])
            · exact offI3 p (by simp [h])
          · rcases Nat.lt_succ_iff_lt_or_eq.mp hk with h | rfl
            · exact List.mem_append_left _ (hks k h)
            · exact List.mem_append_right _ (.head _)
          · rcases List.mem_cons.mp hp with rfl | h
            · exact Nat.ne_of_gt (lt14 _ (.tail _ (.tail _ (.tail _ (.tail _ (hrr3 ▸ List.mem_append_right _ (List.mem_append_right _ (List.mem_append_right _ hq))))))))
            · exact hap3 p h q hq
      · rintro m3 news3 h7 tk7 ⟨ts3, ct3, own4, pss4, rfl, g1, g2, g3, offA3, offI3, OK3, hps, hks, hap3⟩ F10 N10
        clear F9 N9
        (try dsimp only)
        k_unmd
        (repeat' (first | ((fail_if_success (with_reducible first | refine Mine.z1 ?_ | refine Mine.z2 ?_ | refine Mine.z3 ?_ | refine Mine.z4 ?_ | refine Mine.z5 ?_ | refine Mine.z6 ?_ | refine Mine.z7 ?_ | refine Mine.z8 ?_ | refine Mine.z9 ?_ | refine Mine.z10 ?_ | refine Mine.z11 ?_ | refine Mine.z12 ?_ | refine Mine.z13 ?_ | refine Mine.z14 ?_ | refine Mine.z15 ?_ | refine Mine.z16 ?_)); (first | (with_reducible refine Mine.z18 ?_) | (fail_if_success (with_reducible refine Mine.z17 ?_))); (first | (k_unfold; (try dsimp only)) | walk1 | (dsimp only; walk1))) | fail "no step"))
        refine turn_next F10 N10 ((T, listOf (List.toArray ts3) ct3) :: (L' + 1, oX2) :: (((D, listOf (List.toArray ys) ys.length) :: own4) ++ news)) (fun p hp => ?_) (fun p hp => ?_) ⟨_, _, _, _, pss4, _, rfl, hcv2, g1, g2, fun p hp => ?_, OK3.mono fun p hp => .tail _ hp, fun n hn => ?_, fun p hp q hq => ?_⟩
        · simp only [List.mem_cons, List.mem_append] at hp ⊢; rcases hp with h | h | h | (h | h) | h <;> simp [h]
        · simp only [List.mem_cons, List.mem_append] at hp
          rcases hp with rfl | rfl | (rfl | h) | h
          · exact hoffI (T, listOf (List.toArray ts) ct) (.head _)
          · exact hoffI (L' + 1, oX1) (.tail _ (.head _))
          · exact hDI
          · exact offI3 p (by simp [h])
          · exact offI3 p (by simp [h])
        · simp only [List.mem_cons, List.mem_append] at hp
          rcases hp with (rfl | h) | h
          · exact ⟨Ne.symm hTD, Ne.symm hXD⟩
          · have := offA3 p (by simp [h]); exact ⟨this.1, this.2.1⟩
          · have := offA3 p (by simp [h]); exact ⟨this.1, this.2.1⟩
        · rw [List.take_add_one, hx] at hn
          rcases List.mem_append.mp hn with h | h
          · exact hps _ (hin n h)
          · simp at h
            subst h
            have := hks r (by first | grind | omega)
            rwa [List.take_of_length_le (by simp [pathOf]; omega)] at this
        · rcases List.mem_cons.mp hp with rfl | h
          · exact Ne.symm (offD q (.tail _ (.tail _ (hrr ▸ List.mem_append_right _ (List.mem_append_right _ hq)))))
          · exact hap3 p h q hq
  · rintro m1 news1 h2 tk2 ⟨ts, ct, own1, oX1, pss, cv, rfl, hcv, m1', m2, offT1, OK, hin, hap⟩ F2 N2
    clear F1 N1
    (try dsimp only)
    k_unmd
    have F3 := fr_knowns [(Str.ofString "tree", Value.ref T)] F2 (known_cons m2 known_nil)
    clear F2
    dsimp only [List.lookup] at F3
    (repeat' (first | ((fail_if_success (with_reducible first | refine Mine.z1 ?_ | refine Mine.z2 ?_ | refine Mine.z3 ?_ | refine Mine.z4 ?_ | refine Mine.z5 ?_ | refine Mine.z6 ?_ | refine Mine.z7 ?_ | refine Mine.z8 ?_ | refine Mine.z9 ?_ | refine Mine.z10 ?_ | refine Mine.z11 ?_ | refine Mine.z12 ?_ | refine Mine.z13 ?_ | refine Mine.z14 ?_ | refine Mine.z15 ?_ | refine Mine.z16 ?_)); (first | (with_reducible refine Mine.z18 ?_) | (fail_if_success (with_reducible refine Mine.z17 ?_))); (first | (k_unfold; (try dsimp only)) | walk1 | (dsimp only; walk1))) | fail "no step"))
    rename_i kF kN _ _
    refine hQ _ _ T ts ct own1 pss kF (news_sub kN fun p hp => ?_) (fun p hp => (offT1 p hp).1) OK (fun n hn => hin n (by rw [List.take_of_length_le (by rw [hi.length]; exact Nat.le_refl _)]; exact hn)) hap
    rcases List.mem_cons.mp hp with rfl | h
    · exact .head _
    · exact .tail _ (.tail _ h)
end Mine

namespace Mine
def cmpS (x y : Str) : Int := b2i (decide (y.cps.toList < x.cps.toList)) - b2i (decide (x.cps.toList < y.cps.toList))
theorem cmp_nm : ∀ a ∈ [0, 1, 2], ∀ b ∈ [0, 1, 2], cmpS (nm a) (nm b) = cmpN a b := by decide
theorem strxfrm_c {prog : Program} {w : World} {p : Program} {loose : List Str} {mean : ExcName → Option Value} {mg mb : Str → Option Value} {dp un : Nat} {gd : Option (List Code)} {env : Env} {A₀ : Around} {outer : List Env} {base h₀ : Heap} {L : Addr} {m : Str → Option Value} {s : Shared} {Q E : Value → Shared → Prop}
   {x : Str} {t1 : Tok}
   (B : Below A₀ base outer h₀) (F : Fr h₀ L s.heap m) (X : (hd.heap_39 w.params).In h₀) (T : Top p loose mean mg mb h₀) (hf : env.frame = some L) (hke : env.scope.kind = .function) (hd : dp < 900) (hu : un < 900) {news : List (Addr × Obj)} (N : News h₀ L s.heap news)
   (hQ : ∀ (h' : Heap) (tk' : Nat), Fr h₀ L h' m → News h₀ L h' news → Q (.str x t1) { s with heap := h', toks := tk' }) :
   wpAny (model prog w) { handled := none, depth := dp, frames := some (env :: outer), guards := gd, units := un } (call (.ref 35) [.str x t1]) Q E s := by
  w_top off
  refine wpAny_call ?_
  k_dflt (refine' code_def ?k1 ?k2 ?k3 ?k4 ?k5 ?kA ?kF ?kK ?k6 ?k7 ?k8 ?k9 ?kB ?_ ?c2 ?c3 ?c4 ?c5; (case kA => exact rfl); (case kF => first | exact rfl | assumption); (case kK => first | exact rfl | assumption); (case k1 => k_asm); (case k2 => k_asm); (case k3 => k_asm); (case k4 => k_asm); (case k5 => k_asm); (case k6 => k_is); (case k7 => k_is); (case k8 => ktr_room); (case k9 => exact BindsTo.of_eq rfl); (case c5 => decide); (case kB => exact locs rfl); (case c2 => exact rfl); (case c3 => exact rfl); (case c4 => exact rfl); k_whole; intro g' L' h' FG' F' N' B' X' T'; (try dsimp only); (try k_fold))
  (repeat' (first | ((fail_if_success (with_reducible first | refine Mine.z1 ?_ | refine Mine.z2 ?_ | refine Mine.z3 ?_ | refine Mine.z4 ?_ | refine Mine.z5 ?_ | refine Mine.z6 ?_ | refine Mine.z7 ?_ | refine Mine.z8 ?_ | refine Mine.z9 ?_ | refine Mine.z10 ?_ | refine Mine.z11 ?_ | refine Mine.z12 ?_ | refine Mine.z13 ?_ | refine Mine.z14 ?_ | refine Mine.z15 ?_ | refine Mine.z16 ?_)); (first | (with_reducible refine Mine.z18 ?_) | (fail_if_success (with_reducible refine Mine.z17 ?_))); (first | (k_unfold; (try dsimp only)) | walk1 | (dsimp only; walk1))) | fail "no step"))
  exact hQ _ _ (by assumption) (by assumption)
theorem strcoll_c {prog : Program} {w : World} {p : Program} {loose : List Str} {mean : ExcName → Option Value} {mg mb : Str → Option Value} {dp un : Nat} {gd : Option (List Code)} {env : Env} {A₀ : Around} {outer : List Env} {base h₀ : Heap} {L : Addr} {m : Str → Option Value} {s : Shared} {Q E : Value → Shared → Prop}
   {x y : Str} {t1 t2 : Tok}
   (B : Below A₀ base outer h₀) (F : Fr h₀ L s.heap m) (X : (hd.heap_39 w.params).In h₀) (T : Top p loose mean mg mb h₀) (hf : env.frame = some L) (hke : env.scope.kind = .function) (hd : dp < 900) (hu : un < 900) {news : List (Addr × Obj)} (N : News h₀ L s.heap news)
   (hQ : ∀ (h' : Heap) (tk' : Nat) (t : Tok), Fr h₀ L h' m → News h₀ L h' news → Q (.int (cmpS x y) t) { s with heap := h', toks := tk' }) :
   wpAny (model prog w) { handled := none, depth := dp, frames := some (env :: outer), guards := gd, units := un } (call (.ref 28) [.str x t1, .str y t2]) Q E s := by
  w_top off
  refine wpAny_call ?_
  k_dflt (refine' code_def ?k1 ?k2 ?k3 ?k4 ?k5 ?kA ?kF ?kK ?k6 ?k7 ?k8 ?k9 ?kB ?_ ?c2 ?c3 ?c4 ?c5; (case kA => exact rfl); (case kF => first | exact rfl | assumption); (case kK => first | exact rfl | assumption); (case k1 => k_asm); (case k2 => k_asm); (case k3 => k_asm); (case k4 => k_asm); (case k5 => k_asm); (case k6 => k_is); (case k7 => k_is); (case k8 => ktr_room); (case k9 => exact BindsTo.of_eq rfl); (case c5 => decide); (case kB => exact locs rfl); (case c2 => exact rfl); (case c3 => exact rfl); (case c4 => exact rfl); k_whole; intro g' L' h' FG' F' N' B' X' T'; (try dsimp only); (try k_fold))
  (repeat' (first | ((fail_if_success (with_reducible first | refine Mine.z1 ?_ | refine Mine.z2 ?_ | refine Mine.z3 ?_ | refine Mine.z4 ?_ | refine Mine.z5 ?_ | refine Mine.z6 ?_ | refine Mine.z7 ?_ | refine Mine.z8 ?_ | refine Mine.z9 ?_ | refine Mine.z10 ?_ | refine Mine.z11 ?_ | refine Mine.z12 ?_ | refine Mine.z13 ?_ | refine Mine.z14 ?_ | refine Mine.z15 ?_ | refine Mine.z16 ?_)); (first | (with_reducible refine Mine.z18 ?_) | (fail_if_success (with_reducible refine Mine.z17 ?_))); (first | (k_unfold; (try dsimp only)) | walk1 | (dsimp only; walk1))) | fail "no step"))
  walk1
  (repeat' (first | ((fail_if_success (with_reducible first | refine Mine.z1 ?_ | refine Mine.z2 ?_ | refine Mine.z3 ?_ | refine Mine.z4 ?_ | refine Mine.z5 ?_ | refine Mine.z6 ?_ | refine Mine.z7 ?_ | refine Mine.z8 ?_ | refine Mine.z9 ?_ | refine Mine.z10 ?_ | refine Mine.z11 ?_ | refine Mine.z12 ?_ | refine Mine.z13 ?_ | refine Mine.z14 ?_ | refine Mine.z15 ?_ | refine Mine.z16 ?_)); (first | (with_reducible refine Mine.z18 ?_) | (fail_if_success (with_reducible refine Mine.z17 ?_))); (first | (k_unfold; (try dsimp only)) | walk1 | (dsimp only; walk1))) | fail "no step"))
  exact hQ _ _ _ (by assumption) (by assumption)
end Mine

namespace Mine
def common1 : Cut (∀ (prog : Program) (w : World) (p : Program) (loose : List Str) (mean : ExcName → Option Value) (mg mb : Str → Option Value) (dp un : Nat) (gd : Option (List Code)) (env : Env) (A₀ : Around) (outer : List Env) (base h₀ : Heap) (L : Addr) (m : Str → Option Value) (s : Shared) (Q E : Value → Shared → Prop)
   (l : Addr) (x y : Str) (tx ty : Tok) (c : Nat)
   (B : Below A₀ base outer h₀) (F : Fr h₀ L s.heap m) (X : (hd.heap_39 w.params).In h₀) (T : Top p loose mean mg mb h₀) (hf : env.frame = some L) (hke : env.scope.kind = .function) (hd : dp < 890) (hu : un < 870) (hxz : x.length < 100) (hyz : y.length < 100) (hxs : (Txt.split x (Str.ofString "/")).length < 100) (hys : (Txt.split y (Str.ofString "/")).length < 100) (p q : List Nat) (hxf : (Txt.split x (Str.ofString "/")).filter keepC = p.map nm) (hyf : (Txt.split y (Str.ofString "/")).filter keepC = q.map nm) (hp : p ∈ [] :: allP) (hq : q ∈ [] :: allP) (hx1 : Txt.startswith x (Str.ofString "/") = true) (hy1 : Txt.startswith y (Str.ofString "/") = true) (news : List (Addr × Obj)) (N : News h₀ L s.heap news) (hl : (l, listOf [Value.str x tx, Value.str y ty].toArray c) ∈ news)
   (hQ : ∀ (h' : Heap) (tk' : Nat) (t : Tok), Fr h₀ L h' m → News h₀ L h' news → Q (.str (pathS (lcp p q)) t) { s with heap := h', toks := tk' }), wpAny (model prog w) { handled := none, depth := dp, frames := some (env :: outer), guards := gd, units := un } (call (.ref 183) [.ref l]) Q E s) := by
  apply Cut.mk
  case h =>
    intro hCutA
    intro prog w p loose mean mg mb dp un gd env A₀ outer base h₀ L m s Q E l x y tx ty c B F X T hf hke hd hu hxz hyz hxs hys p q hxf hyf hp hq hx1 hy1 news N hl hQ
    w_top off
    refine wpAny_call ?_
    k_dflt (refine' code_defC ?k1 ?k2 ?k3 ?k4 ?k5 ?kA ?kF ?kK ?k6 ?k7 ?k8 ?k9 ?kB ?kD ?_ ?c2 ?c3 ?c4; (case kA => exact rfl); (case kF => first | exact rfl | assumption); (case kK => first | exact rfl | assumption); (case k1 => k_asm); (case k2 => k_asm); (case k3 => k_asm); (case k4 => k_asm); (case k5 => k_asm); (case k6 => k_is); (case k7 => k_is); (case k8 => ktr_room); (case k9 => exact BindsTo.of_eq rfl); (case kB => exact rfl); (case kD => decide +kernel); (case c2 => exact rfl); (case c3 => exact rfl); (case c4 => exact rfl); k_whole; intro g' L' h' tk' cells' FG' F' N' Y' B' X' T' l1; k_cells Y'; (try simp only [List.cons_append, List.nil_append] at N'); (try dsimp only); (try k_fold))
    (repeat' (first | ((fail_if_success (with_reducible first | refine Mine.z1 ?_ | refine Mine.z2 ?_ | refine Mine.z3 ?_ | refine Mine.z4 ?_ | refine Mine.z5 ?_ | refine Mine.z6 ?_ | refine Mine.z7 ?_ | refine Mine.z8 ?_ | refine Mine.z9 ?_ | refine Mine.z10 ?_ | refine Mine.z11 ?_ | refine Mine.z12 ?_ | refine Mine.z13 ?_ | refine Mine.z14 ?_ | refine Mine.z15 ?_ | refine Mine.z16 ?_)); (first | (with_reducible refine Mine.z18 ?_) | (fail_if_success (with_reducible refine Mine.z17 ?_))); (first | (k_unfold; (try dsimp only)) | walk1 | (dsimp only; walk1))) | fail "no step"))
    rename_i oC oS dC dS
    refine call_map (vs := [Value.str x tx, Value.str y ty]) (n := c) F' N' (.tail _ (.tail _ hl)) fun h1 I TT M F1 N1 lt1 lt2 lt3 => ?_
    clear F' N'
    (try dsimp only)
    k_unmd
    (repeat' (first | ((fail_if_success (with_reducible first | refine Mine.z1 ?_ | refine Mine.z2 ?_ | refine Mine.z3 ?_ | refine Mine.z4 ?_ | refine Mine.z5 ?_ | refine Mine.z6 ?_ | refine Mine.z7 ?_ | refine Mine.z8 ?_ | refine Mine.z9 ?_ | refine Mine.z10 ?_ | refine Mine.z11 ?_ | refine Mine.z12 ?_ | refine Mine.z13 ?_ | refine Mine.z14 ?_ | refine Mine.z15 ?_ | refine Mine.z16 ?_)); (first | (with_reducible refine Mine.z18 ?_) | (fail_if_success (with_reducible refine Mine.z17 ?_))); (first | (k_unfold; (try dsimp only)) | walk1 | (dsimp only; walk1))) | fail "no step"))
    refine call_tuple_map (l := l) (c := c) (vs := [Value.str x tx, Value.str y ty]) rfl (by simp) F1 N1 ⟨rfl, rfl⟩ (.tail _ (.tail _ hl)) (fun v h tk nw Q' E' hv F2 N2 hq => ?_) (fun p hp => ?_) fun h2 t tk2 F2 N2 lt4 => ?_
    · simp only [List.mem_cons, List.not_mem_nil, or_false] at hv
      rcases hv with rfl | rfl
      · refine fspath_c (by k_asm) F2 (by k_asm) (by k_asm) rfl rfl (by ktr_room) (by ktr_units) N2 fun h3 tk3 F3 N3 => ?_
        exact hq h3 tk3 F3 N3
      · refine fspath_c (by k_asm) F2 (by k_asm) (by k_asm) rfl rfl (by ktr_room) (by ktr_units) N2 fun h3 tk3 F3 N3 => ?_
        exact hq h3 tk3 F3 N3
    · simp only [List.mem_cons] at hp
      rcases hp with rfl | rfl | hp
      · exact Nat.ne_of_gt (Nat.lt_trans lt1 lt2)
      · exact Nat.ne_of_gt lt1
      · exact Nat.ne_of_lt (lt3 p (by simpa using hp))
    clear F1 N1
    (try dsimp only)
    k_unmd
    (repeat' (first | ((fail_if_success (with_reducible first | refine Mine.z1 ?_ | refine Mine.z2 ?_ | refine Mine.z3 ?_ | refine Mine.z4 ?_ | refine Mine.z5 ?_ | refine Mine.z6 ?_ | refine Mine.z7 ?_ | refine Mine.z8 ?_ | refine Mine.z9 ?_ | refine Mine.z10 ?_ | refine Mine.z11 ?_ | refine Mine.z12 ?_ | refine Mine.z13 ?_ | refine Mine.z14 ?_ | refine Mine.z15 ?_ | refine Mine.z16 ?_)); (first | (with_reducible refine Mine.z18 ?_) | (fail_if_success (with_reducible refine Mine.z17 ?_))); (first | (k_unfold; (try dsimp only)) | walk1 | (dsimp only; walk1))) | fail "no step"))
    walk1
    (repeat' (first | ((fail_if_success (with_reducible first | refine Mine.z1 ?_ | refine Mine.z2 ?_ | refine Mine.z3 ?_ | refine Mine.z4 ?_ | refine Mine.z5 ?_ | refine Mine.z6 ?_ | refine Mine.z7 ?_ | refine Mine.z8 ?_ | refine Mine.z9 ?_ | refine Mine.z10 ?_ | refine Mine.z11 ?_ | refine Mine.z12 ?_ | refine Mine.z13 ?_ | refine Mine.z14 ?_ | refine Mine.z15 ?_ | refine Mine.z16 ?_)); (first | (with_reducible refine Mine.z18 ?_) | (fail_if_success (with_reducible refine Mine.z17 ?_))); (first | (k_unfold; (try dsimp only)) | walk1 | (dsimp only; walk1))) | fail "no step"))
    rename News _ _ _ _ => N3
    rename Fr _ _ _ _ => F3
    have htC : t ≠ L' + 1 + 1 := Nat.ne_of_gt (lt4 _ (.head _))
    have htS : t ≠ L' + 1 := Nat.ne_of_gt (lt4 _ (.tail _ (.head _)))
    have hCS : L' + 1 + 1 ≠ L' + 1 := Nat.ne_of_gt (Nat.lt_succ_self _)
    have hnS : ∀ p ∈ news, p.1 ≠ L' + 1 := fun p hp => Nat.ne_of_lt (Nat.lt_succ_of_lt (l1 p hp))
    have hnC : ∀ p ∈ news, p.1 ≠ L' + 1 + 1 := fun p hp => Nat.ne_of_lt (Nat.lt_succ_of_lt (Nat.lt_succ_of_lt (l1 p hp)))
    have hnt : ∀ p ∈ news, p.1 ≠ t := fun p hp => Nat.ne_of_lt (lt4 _ (.tail _ (.tail _ hp)))
    refine storeX_C F3 N3 rfl (UpdF.tail htS (UpdF.tail hCS (UpdF.head hnS))) dS (fun h3 oS2 F4 N4 dS2 => ?_) rfl rfl
    clear F3 N3
    (try dsimp only)
    k_unmd
    (repeat' (first | ((fail_if_success (with_reducible first | refine Mine.z1 ?_ | refine Mine.z2 ?_ | refine Mine.z3 ?_ | refine Mine.z4 ?_ | refine Mine.z5 ?_ | refine Mine.z6 ?_ | refine Mine.z7 ?_ | refine Mine.z8 ?_ | refine Mine.z9 ?_ | refine Mine.z10 ?_ | refine Mine.z11 ?_ | refine Mine.z12 ?_ | refine Mine.z13 ?_ | refine Mine.z14 ?_ | refine Mine.z15 ?_ | refine Mine.z16 ?_)); (first | (with_reducible refine Mine.z18 ?_) | (fail_if_success (with_reducible refine Mine.z17 ?_))); (first | (k_unfold; (try dsimp only)) | walk1 | (dsimp only; walk1))) | fail "no step"))
    rename News _ _ _ _ => N5
    rename Fr _ _ _ _ => F5
    refine storeX_C F5 N5 rfl (UpdF.tail htC (UpdF.head (fun p hp => (List.mem_cons.mp hp).elim (fun e => by rw [e]; exact Ne.symm hCS) (hnC p)))) dC (fun h4 oC2 F6 N6 dC2 => ?_) rfl rfl
    clear F5 N5
    (try dsimp only)
    k_unmd
    (repeat' (first | ((fail_if_success (with_reducible first | refine Mine.z1 ?_ | refine Mine.z2 ?_ | refine Mine.z3 ?_ | refine Mine.z4 ?_ | refine Mine.z5 ?_ | refine Mine.z6 ?_ | refine Mine.z7 ?_ | refine Mine.z8 ?_ | refine Mine.z9 ?_ | refine Mine.z10 ?_ | refine Mine.z11 ?_ | refine Mine.z12 ?_ | refine Mine.z13 ?_ | refine Mine.z14 ?_ | refine Mine.z15 ?_ | refine Mine.z16 ?_)); (first | (with_reducible refine Mine.z18 ?_) | (fail_if_success (with_reducible refine Mine.z17 ?_))); (first | (k_unfold; (try dsimp only)) | walk1 | (dsimp only; walk1))) | fail "no step"))
    refine wpAny_Try_except ?_
    (repeat' (first | ((fail_if_success (with_reducible first | refine Mine.z1 ?_ | refine Mine.z2 ?_ | refine Mine.z3 ?_ | refine Mine.z4 ?_ | refine Mine.z5 ?_ | refine Mine.z6 ?_ | refine Mine.z7 ?_ | refine Mine.z8 ?_ | refine Mine.z9 ?_ | refine Mine.z10 ?_ | refine Mine.z11 ?_ | refine Mine.z12 ?_ | refine Mine.z13 ?_ | refine Mine.z14 ?_ | refine Mine.z15 ?_ | refine Mine.z16 ?_)); (first | (with_reducible refine Mine.z18 ?_) | (fail_if_success (with_reducible refine Mine.z17 ?_))); (first | (k_unfold; (try dsimp only)) | walk1 | (dsimp only; walk1))) | fail "no step"))
    refine Assign_ListComp_tup (F₀ := by k_asm) (by rfl) (by with_unfolding_all rfl) (by with_unfolding_all rfl) (by decide) (by rfl) (by decide) (by rfl) (by rfl) (by rfl) ?_
    (repeat' (first | ((fail_if_success (with_reducible first | refine Mine.z1 ?_ | refine Mine.z2 ?_ | refine Mine.z3 ?_ | refine Mine.z4 ?_ | refine Mine.z5 ?_ | refine Mine.z6 ?_ | refine Mine.z7 ?_ | refine Mine.z8 ?_ | refine Mine.z9 ?_ | refine Mine.z10 ?_ | refine Mine.z11 ?_ | refine Mine.z12 ?_ | refine Mine.z13 ?_ | refine Mine.z14 ?_ | refine Mine.z15 ?_ | refine Mine.z16 ?_)); (first | (with_reducible refine Mine.z18 ?_) | (fail_if_success (with_reducible refine Mine.z17 ?_))); (first | (k_unfold; (try dsimp only)) | walk1 | (dsimp only; walk1))) | fail "no step"))
    refine CompTup.mk (vs := [Value.str x tx, Value.str y ty]) rfl F6 N6 (.head _) (by simp) fun g => ?_
    refine LCg.CompRest.succ fun v I1 oI1 C1 oC1 D1 m2 h5 tk5 E' hv hoC hm2 F7 N7 off7 ne7 => ?_
    obtain rfl : v = .str x tx := (Option.some.inj hv).symm
    (repeat' (first | ((fail_if_success (with_reducible first | refine Mine.z1 ?_ | refine Mine.z2 ?_ | refine Mine.z3 ?_ | refine Mine.z4 ?_ | refine Mine.z5 ?_ | refine Mine.z6 ?_ | refine Mine.z7 ?_ | refine Mine.z8 ?_ | refine Mine.z9 ?_ | refine Mine.z10 ?_ | refine Mine.z11 ?_ | refine Mine.z12 ?_ | refine Mine.z13 ?_ | refine Mine.z14 ?_ | refine Mine.z15 ?_ | refine Mine.z16 ?_)); (first | (with_reducible refine Mine.z18 ?_) | (fail_if_success (with_reducible refine Mine.z17 ?_))); (first | (k_unfold; (try dsimp only)) | walk1 | (dsimp only; walk1))) | fail "no step"))
    dsimp only [qk]
    rename_i pl1 h16 k16 hpl1 apl1 hle1 _ F18 N18
    have lt1 : ∀ p ∈ (I1, oI1) :: (C1, oC1) :: (D1, LCg.lst []) :: (t, tupObj [Value.str x tx, Value.str y ty]) :: (L' + 1 + 1, oC2) :: (L' + 1, oS2) :: news, p.1 < h5.objs.size := fun p hp => Heap.lt_size ((by assumption : News g' L' h5 _) p hp).1
    have o1 := off7.mem
    refine LCg.CompEnd.intro F18 N18 ((h5.objs.size, listOf (strValues pl1).toArray 0) :: (t, tupObj [Value.str x tx, Value.str y ty]) :: (L' + 1 + 1, oC2) :: (L' + 1, oS2) :: news) (by tb_start) (LCg.Off3.of fun p hp => ?_) (.tail _ (.head _)) ?_
    · rcases List.mem_cons.mp hp with rfl | hp
      · exact ⟨Nat.ne_of_gt (lt1 _ (.head _)), Nat.ne_of_gt (lt1 _ (.tail _ (.head _))), Nat.ne_of_gt (lt1 _ (.tail _ (.tail _ (.head _))))⟩
      · exact o1 p hp
    have ltP1 : ∀ p ∈ (t, tupObj [Value.str x tx, Value.str y ty]) :: (L' + 1 + 1, oC2) :: (L' + 1, oS2) :: news, p.1 < h5.objs.size := fun p hp => lt1 p (.tail _ (.tail _ (.tail _ hp)))
    clear lt1 o1 off7 ne7
    show LCg.CompRest _ _ _ _ _ _ _ _ _ _ _ _ _ _ _ 1 1 [Value.ref h5.objs.size] _
    generalize h5.objs.size = P1 at ltP1 ⊢
    refine LCg.CompRest.succ fun v I2 oI2 C2 oC22 D2 m3 h7 tk7 E2 hv2 hoC2 hm3 F9 N9 off9 ne9 => ?_
    obtain rfl : v = .str y ty := (Option.some.inj hv2).symm
    (repeat' (first | ((fail_if_success (with_reducible first | refine Mine.z1 ?_ | refine Mine.z2 ?_ | refine Mine.z3 ?_ | refine Mine.z4 ?_ | refine Mine.z5 ?_ | refine Mine.z6 ?_ | refine Mine.z7 ?_ | refine Mine.z8 ?_ | refine Mine.z9 ?_ | refine Mine.z10 ?_ | refine Mine.z11 ?_ | refine Mine.z12 ?_ | refine Mine.z13 ?_ | refine Mine.z14 ?_ | refine Mine.z15 ?_ | refine Mine.z16 ?_)); (first | (with_reducible refine Mine.z18 ?_) | (fail_if_success (with_reducible refine Mine.z17 ?_))); (first | (k_unfold; (try dsimp only)) | walk1 | (dsimp only; walk1))) | fail "no step"))
    dsimp only [qk]
    rename_i pl2 h26 k26 hpl2 apl2 hle2 _ F28 N28
    have lt2 : ∀ p ∈ (I2, oI2) :: (C2, oC22) :: (D2, LCg.lst ([] ++ [.ref P1])) :: (P1, listOf (strValues pl1).toArray 0) :: (t, tupObj [Value.str x tx, Value.str y ty]) :: (L' + 1 + 1, oC2) :: (L' + 1, oS2) :: news, p.1 < h7.objs.size := fun p hp => Heap.lt_size ((by assumption : News g' L' h7 _) p hp).1
    have o2 := off9.mem
    refine LCg.CompEnd.intro F28 N28 ((h7.objs.size, listOf (strValues pl2).toArray 0) :: (P1, listOf (strValues pl1).toArray 0) :: (t, tupObj [Value.str x tx, Value.str y ty]) :: (L' + 1 + 1, oC2) :: (L' + 1, oS2) :: news) (by tb_start) (LCg.Off3.of fun p hp => ?_) (.tail _ (.tail _ (.head _))) ?_
    · rcases List.mem_cons.mp hp with rfl | hp
      · exact ⟨Nat.ne_of_gt (lt2 _ (.head _)), Nat.ne_of_gt (lt2 _ (.tail _ (.head _))), Nat.ne_of_gt (lt2 _ (.tail _ (.tail _ (.head _))))⟩
      · exact o2 p hp
    have ltP2 : ∀ p ∈ (P1, listOf (strValues pl1).toArray 0) :: (t, tupObj [Value.str x tx, Value.str y ty]) :: (L' + 1 + 1, oC2) :: (L' + 1, oS2) :: news, p.1 < h7.objs.size := fun p hp => lt2 p (.tail _ (.tail _ (.tail _ hp)))
    clear lt2 o2 off9 ne9
    show LCg.CompRest _ _ _ _ _ _ _ _ _ _ _ _ _ _ _ 0 2 [Value.ref P1, Value.ref h7.objs.size] _
    generalize h7.objs.size = P2 at ltP2 ⊢
    refine LCg.CompRest.zero ?_
    rintro SP h8 tk8 F10 N10 oSP
    have N11 : News g' L' h8 ((SP, listOf [Value.ref P1, Value.ref P2].toArray 2) :: (P2, listOf (strValues pl2).toArray 0) :: (P1, listOf (strValues pl1).toArray 0) :: (t, tupObj [Value.str x tx, Value.str y ty]) :: (L' + 1 + 1, oC2) :: (L' + 1, oS2) :: news) := N10
    have oSP := off1_mem oSP
    clear N10
    rename_i zh16 zh15 zh14 zh13 zh12 zh11 zh10 zh9 zh8 zh7 zh6 zh5 zh4 zh3 zh2 zh1 zh0
    clear A₀ base c B F hf hke hd N hl h' tk' FG' B' l1 oC oS dC dS h1 I TT M lt1 lt2 lt3 h2 tk2 lt4 zh14 zh13 htC htS hCS hnS hnC hnt h4 F6 N6 I1 oI1 C1 oC1 D1 m2 h5 tk5 E' hoC zh10 zh9 hv hm2 zh8 zh7 zh6 h16 k16 zh5 F18 N18 ltP1 I2 oI2 C2 oC22 D2 m3 h7 tk7 E2 hoC2 zh4 zh3 hv2 hm3 zh2 qk ek h26 k26 zh1 F28 N28 ltP2 zh0 oSP
    revert prog w zh16 loose mean mg mb dp un gd env outer h₀ L m s Q E l x y tx ty X T hu hxz hyz hxs hys p q hxf hyf hp hq hx1 hy1 news hQ g' L' X' T' t zh15 zh12 h3 oS2 dS2 zh11 oC2 dC2 tk g pl1 hpl1 apl1 hle1 P1 pl2 hpl2 apl2 hle2 P2 SP h8 tk8 F10 N11
    exact hCutA.out
end Mine

namespace Mine
def common2 : Cut (common1.C) := by
  apply Cut.mk
  case h =>
    intro hCutA
    intro prog w zh16 loose mean mg mb dp un gd env outer h₀ L m s Q E l x y tx ty X T hu hxz hyz hxs hys p q hxf hyf hp hq hx1 hy1 news hQ g' L' X' T' t zh15 zh12 h3 oS2 dS2 zh11 oC2 dC2 tk g pl1 hpl1 apl1 hle1 P1 pl2 hpl2 apl2 hle2 P2 SP h8 tk8 F10 N11
    w_top off
    (try dsimp only)
    k_unmd
    (repeat' (first | ((fail_if_success (with_reducible first | refine Mine.z1 ?_ | refine Mine.z2 ?_ | refine Mine.z3 ?_ | refine Mine.z4 ?_ | refine Mine.z5 ?_ | refine Mine.z6 ?_ | refine Mine.z7 ?_ | refine Mine.z8 ?_ | refine Mine.z9 ?_ | refine Mine.z10 ?_ | refine Mine.z11 ?_ | refine Mine.z12 ?_ | refine Mine.z13 ?_ | refine Mine.z14 ?_ | refine Mine.z15 ?_ | refine Mine.z16 ?_)); (first | (with_reducible refine Mine.z18 ?_) | (fail_if_success (with_reducible refine Mine.z17 ?_))); (first | (k_unfold; (try dsimp only)) | walk1 | (dsimp only; walk1))) | fail "no step"))
    refine wpAny_Try_except ?_
    (repeat' (first | ((fail_if_success (with_reducible first | refine Mine.z1 ?_ | refine Mine.z2 ?_ | refine Mine.z3 ?_ | refine Mine.z4 ?_ | refine Mine.z5 ?_ | refine Mine.z6 ?_ | refine Mine.z7 ?_ | refine Mine.z8 ?_ | refine Mine.z9 ?_ | refine Mine.z10 ?_ | refine Mine.z11 ?_ | refine Mine.z12 ?_ | refine Mine.z13 ?_ | refine Mine.z14 ?_ | refine Mine.z15 ?_ | refine Mine.z16 ?_)); (first | (with_reducible refine Mine.z18 ?_) | (fail_if_success (with_reducible refine Mine.z17 ?_))); (first | (k_unfold; (try dsimp only)) | walk1 | (dsimp only; walk1))) | fail "no step"))
    rename Fr _ _ _ _ => F12
    rename News _ _ _ _ => N12
    refine SetComp_tup F12 (by with_unfolding_all rfl) (by decide) (by rfl) (by decide) (by rfl) ?_
    (repeat' (first | ((fail_if_success (with_reducible first | refine Mine.z1 ?_ | refine Mine.z2 ?_ | refine Mine.z3 ?_ | refine Mine.z4 ?_ | refine Mine.z5 ?_ | refine Mine.z6 ?_ | refine Mine.z7 ?_ | refine Mine.z8 ?_ | refine Mine.z9 ?_ | refine Mine.z10 ?_ | refine Mine.z11 ?_ | refine Mine.z12 ?_ | refine Mine.z13 ?_ | refine Mine.z14 ?_ | refine Mine.z15 ?_ | refine Mine.z16 ?_)); (first | (with_reducible refine Mine.z18 ?_) | (fail_if_success (with_reducible refine Mine.z17 ?_))); (first | (k_unfold; (try dsimp only)) | walk1 | (dsimp only; walk1))) | fail "no step"))
    refine CompSetT.mk (vs := [Value.str x tx, Value.str y ty]) rfl F12 N12 (.tail _ (.tail _ (.tail _ (.head _)))) (by simp) (by simp) (fun i v I3 oI3 C3 oC3 S3 m4 h9 tk9 E3 hv3 hoC3 hm4 F13 N13 => ?_) fun S3 h9 tk9 F13 N13 off3 => ?_
    · have hxv : v = .str x tx ∨ v = .str y ty := by
        have := List.mem_of_getElem? hv3
        simpa using this
      rcases hxv with rfl | rfl
      · (repeat' (first | ((fail_if_success (with_reducible first | refine Mine.z1 ?_ | refine Mine.z2 ?_ | refine Mine.z3 ?_ | refine Mine.z4 ?_ | refine Mine.z5 ?_ | refine Mine.z6 ?_ | refine Mine.z7 ?_ | refine Mine.z8 ?_ | refine Mine.z9 ?_ | refine Mine.z10 ?_ | refine Mine.z11 ?_ | refine Mine.z12 ?_ | refine Mine.z13 ?_ | refine Mine.z14 ?_ | refine Mine.z15 ?_ | refine Mine.z16 ?_)); (first | (with_reducible refine Mine.z18 ?_) | (fail_if_success (with_reducible refine Mine.z17 ?_))); (first | (k_unfold; (try dsimp only)) | walk1 | (dsimp only; walk1))) | fail "no step"))
        exact TrueEnd.intro hx1 (by assumption) (by assumption) fun _ h => h
      · (repeat' (first | ((fail_if_success (with_reducible first | refine Mine.z1 ?_ | refine Mine.z2 ?_ | refine Mine.z3 ?_ | refine Mine.z4 ?_ | refine Mine.z5 ?_ | refine Mine.z6 ?_ | refine Mine.z7 ?_ | refine Mine.z8 ?_ | refine Mine.z9 ?_ | refine Mine.z10 ?_ | refine Mine.z11 ?_ | refine Mine.z12 ?_ | refine Mine.z13 ?_ | refine Mine.z14 ?_ | refine Mine.z15 ?_ | refine Mine.z16 ?_)); (first | (with_reducible refine Mine.z18 ?_) | (fail_if_success (with_reducible refine Mine.z17 ?_))); (first | (k_unfold; (try dsimp only)) | walk1 | (dsimp only; walk1))) | fail "no step"))
        exact TrueEnd.intro hy1 (by assumption) (by assumption) fun _ h => h
    · (try dsimp only)
      k_unmd
      refine unpack_true rfl (N13 _ (.head _)).1 rfl fun h10 he10 => ?_
      have F14 := fr_extNew F13 he10
      have N14 := news_extNew (news_sub (news' := (SP, listOf [Value.ref P1, Value.ref P2].toArray 2) :: (P2, listOf (strValues pl2).toArray 0) :: (P1, listOf (strValues pl1).toArray 0) :: (t, tupObj [Value.str x tx, Value.str y ty]) :: (L' + 1 + 1, oC2) :: (L' + 1, oS2) :: news) N13 fun p hp => .tail _ hp) he10
      clear F13 N13 F12 N12 he10
      (repeat' (first | ((fail_if_success (with_reducible first | refine Mine.z1 ?_ | refine Mine.z2 ?_ | refine Mine.z3 ?_ | refine Mine.z4 ?_ | refine Mine.z5 ?_ | refine Mine.z6 ?_ | refine Mine.z7 ?_ | refine Mine.z8 ?_ | refine Mine.z9 ?_ | refine Mine.z10 ?_ | refine Mine.z11 ?_ | refine Mine.z12 ?_ | refine Mine.z13 ?_ | refine Mine.z14 ?_ | refine Mine.z15 ?_ | refine Mine.z16 ?_)); (first | (with_reducible refine Mine.z18 ?_) | (fail_if_success (with_reducible refine Mine.z17 ?_))); (first | (k_unfold; (try dsimp only)) | walk1 | (dsimp only; walk1))) | fail "no step"))
      rename News _ _ _ _ => N15
      rename Fr _ _ _ _ => F15
      refine LCg.Assign_ListComp_U F15 (by rfl) (by with_unfolding_all rfl) (by with_unfolding_all rfl) (by decide) (by rfl) (by decide) (by rfl) (by rfl) (by rfl) ?_
      (repeat' (first | ((fail_if_success (with_reducible first | refine Mine.z1 ?_ | refine Mine.z2 ?_ | refine Mine.z3 ?_ | refine Mine.z4 ?_ | refine Mine.z5 ?_ | refine Mine.z6 ?_ | refine Mine.z7 ?_ | refine Mine.z8 ?_ | refine Mine.z9 ?_ | refine Mine.z10 ?_ | refine Mine.z11 ?_ | refine Mine.z12 ?_ | refine Mine.z13 ?_ | refine Mine.z14 ?_ | refine Mine.z15 ?_ | refine Mine.z16 ?_)); (first | (with_reducible refine Mine.z18 ?_) | (fail_if_success (with_reducible refine Mine.z17 ?_))); (first | (k_unfold; (try dsimp only)) | walk1 | (dsimp only; walk1))) | fail "no step"))
      refine LCg.CompSrc.ledger (its := [Value.ref P1, Value.ref P2].toArray) rfl F15 N15 (.head _) (by rw [sizeLine_eq]; show 2 ≤ _; decide) fun g => ?_
      refine LCg.CompRest.succ fun v I4 oI4 C4 oC4 D4 m5 h11 tk11 E4 hv4 hoC4 hm5 F16 N16 off16 ne16 => ?_
      obtain rfl : v = .ref P1 := (Option.some.inj hv4).symm
      clear F15 N15
      refine LCt.ListComp_T F16 (by with_unfolding_all rfl) (by decide) (by rfl) (by decide) (by rfl) ?_
      (repeat' (first | ((fail_if_success (with_reducible first | refine Mine.z1 ?_ | refine Mine.z2 ?_ | refine Mine.z3 ?_ | refine Mine.z4 ?_ | refine Mine.z5 ?_ | refine Mine.z6 ?_ | refine Mine.z7 ?_ | refine Mine.z8 ?_ | refine Mine.z9 ?_ | refine Mine.z10 ?_ | refine Mine.z11 ?_ | refine Mine.z12 ?_ | refine Mine.z13 ?_ | refine Mine.z14 ?_ | refine Mine.z15 ?_ | refine Mine.z16 ?_)); (first | (with_reducible refine Mine.z18 ?_) | (fail_if_success (with_reducible refine Mine.z17 ?_))); (first | (k_unfold; (try dsimp only)) | walk1 | (dsimp only; walk1))) | fail "no step"))
      have hpl0 : (strValues pl1).toArray.size = (Txt.split x (Str.ofString "/")).length := by rw [← hpl1]; simp [strValues]
      rw [hpl1] at apl1 hle1
      refine LCt.CompSrcT.ledger (its := (strValues pl1).toArray) (k := 0) rfl F16 N16 (by k_mem) (by rw [hpl0, sizeLine_eq]; omega) fun g2 => ?_
      refine restT_of (Txt.split x (Str.ofString "/")).length (fun i ys nw => StrsAre ys (((Txt.split x (Str.ofString "/")).take i).filter keepC) ∧ nw = (I4, oI4) :: (C4, oC4) :: (D4, LCg.lst []) :: (SP, listOf [Value.ref P1, Value.ref P2].toArray 2) :: (P2, listOf (strValues pl2).toArray 0) :: (P1, listOf (strValues pl1).toArray 0) :: (t, tupObj [Value.str x tx, Value.str y ty]) :: (L' + 1 + 1, oC2) :: (L' + 1, oS2) :: news) ?_ ?_ _ 0 [] _ (by rw [hpl0]; omega) ⟨.nil, rfl⟩
      · rintro i ys nw v I5 oI5 C5 oC5 D5 m6 h12 tk12 E5 hi5 ⟨hys, rfl⟩ hv5 hoC5 hm6 F17 N17 off17 ne17
        obtain ⟨c5, t5, rfl, hc5⟩ := apl1.item i v (by simpa using hv5)
        have hc5l : c5.length < 100 := Nat.lt_of_le_of_lt (hle1 _ (List.mem_of_getElem? hc5)) hxz
        (repeat' (first | ((fail_if_success (with_reducible first | refine Mine.z1 ?_ | refine Mine.z2 ?_ | refine Mine.z3 ?_ | refine Mine.z4 ?_ | refine Mine.z5 ?_ | refine Mine.z6 ?_ | refine Mine.z7 ?_ | refine Mine.z8 ?_ | refine Mine.z9 ?_ | refine Mine.z10 ?_ | refine Mine.z11 ?_ | refine Mine.z12 ?_ | refine Mine.z13 ?_ | refine Mine.z14 ?_ | refine Mine.z15 ?_ | refine Mine.z16 ?_)); (first | (with_reducible refine Mine.z18 ?_) | (fail_if_success (with_reducible refine Mine.z17 ?_))); (first | (k_unfold; (try dsimp only)) | walk1 | (dsimp only; walk1))) | fail "no step"))
        · rename News _ _ _ _ => N17
          rename_i hz1 hz2
          refine LCg.CompEnd.intro F17 N17 ((I4, oI4) :: (C4, oC4) :: (D4, LCg.lst []) :: (SP, listOf [Value.ref P1, Value.ref P2].toArray 2) :: (P2, listOf (strValues pl2).toArray 0) :: (P1, listOf (strValues pl1).toArray 0) :: (t, tupObj [Value.str x tx, Value.str y ty]) :: (L' + 1 + 1, oC2) :: (L' + 1, oS2) :: news) (fun _ h => h) off17 (.inr ⟨_, by k_mem, rfl, _, rfl⟩) ⟨filt_yes hc5 hz1 hz2 hys, rfl⟩
        · rename News _ _ _ _ => N17
          rename_i hz1 hz2
          refine LCg.CompEnd.intro F17 N17 ((I4, oI4) :: (C4, oC4) :: (D4, LCg.lst []) :: (SP, listOf [Value.ref P1, Value.ref P2].toArray 2) :: (P2, listOf (strValues pl2).toArray 0) :: (P1, listOf (strValues pl1).toArray 0) :: (t, tupObj [Value.str x tx, Value.str y ty]) :: (L' + 1 + 1, oC2) :: (L' + 1, oS2) :: news) (fun _ h => h) off17 (.inr ⟨_, by k_mem, rfl, _, rfl⟩) ⟨filt_no1 hc5 hz2 hys, rfl⟩
        · rename News _ _ _ _ => N17
          rename_i hz1
          refine LCg.CompEnd.intro F17 N17 ((I4, oI4) :: (C4, oC4) :: (D4, LCg.lst []) :: (SP, listOf [Value.ref P1, Value.ref P2].toArray 2) :: (P2, listOf (strValues pl2).toArray 0) :: (P1, listOf (strValues pl1).toArray 0) :: (t, tupObj [Value.str x tx, Value.str y ty]) :: (L' + 1 + 1, oC2) :: (L' + 1, oS2) :: news) (fun _ h => h) off17 (.inr ⟨_, by k_mem, rfl, _, rfl⟩) ⟨filt_no2 hc5 hz1 hys, rfl⟩
      · rintro ys1 _ ⟨hys1, rfl⟩ Y1 h12 tk12 F17 N17 oY1
        have oY1' := off1_mem oY1
        have o16 := off16.mem
        rw [List.take_length, hxf] at hys1
        refine LCg.CompEnd.intro F17 N17 ((Y1, listOf ys1.toArray ys1.length) :: (SP, listOf [Value.ref P1, Value.ref P2].toArray 2) :: (P2, listOf (strValues pl2).toArray 0) :: (P1, listOf (strValues pl1).toArray 0) :: (t, tupObj [Value.str x tx, Value.str y ty]) :: (L' + 1 + 1, oC2) :: (L' + 1, oS2) :: news) (by tb_start) (LCg.Off3.of fun p hp => ?_) (.inr ⟨_, by k_mem, rfl, _, rfl⟩) ?_
        · rcases List.mem_cons.mp hp with rfl | hp
          · exact ⟨Ne.symm (oY1' _ (.head _)), Ne.symm (oY1' _ (.tail _ (.head _))), Ne.symm (oY1' _ (.tail _ (.tail _ (.head _))))⟩
          · exact o16 p hp
        have oY1 : ∀ p ∈ (SP, listOf [Value.ref P1, Value.ref P2].toArray 2) :: (P2, listOf (strValues pl2).toArray 0) :: (P1, listOf (strValues pl1).toArray 0) :: (t, tupObj [Value.str x tx, Value.str y ty]) :: (L' + 1 + 1, oC2) :: (L' + 1, oS2) :: news, p.1 ≠ Y1 := fun p hp => oY1' p (.tail _ (.tail _ (.tail _ hp)))
        clear oY1' o16 off16 ne16 F16 F17 N17
        refine LCg.CompRest.succ fun v I6 oI6 C6 oC6 D6 m6 h13 tk13 E6 hv6 hoC6 hm6 F18 N18 off18 ne18 => ?_
        obtain rfl : v = .ref P2 := (Option.some.inj hv6).symm
        refine LCt.ListComp_T F18 (by with_unfolding_all rfl) (by decide) (by rfl) (by decide) (by rfl) ?_
        (repeat' (first | ((fail_if_success (with_reducible first | refine Mine.z1 ?_ | refine Mine.z2 ?_ | refine Mine.z3 ?_ | refine Mine.z4 ?_ | refine Mine.z5 ?_ | refine Mine.z6 ?_ | refine Mine.z7 ?_ | refine Mine.z8 ?_ | refine Mine.z9 ?_ | refine Mine.z10 ?_ | refine Mine.z11 ?_ | refine Mine.z12 ?_ | refine Mine.z13 ?_ | refine Mine.z14 ?_ | refine Mine.z15 ?_ | refine Mine.z16 ?_)); (first | (with_reducible refine Mine.z18 ?_) | (fail_if_success (with_reducible refine Mine.z17 ?_))); (first | (k_unfold; (try dsimp only)) | walk1 | (dsimp only; walk1))) | fail "no step"))
        have hpl20 : (strValues pl2).toArray.size = (Txt.split y (Str.ofString "/")).length := by rw [← hpl2]; simp [strValues]
        rw [hpl2] at apl2 hle2
        refine LCt.CompSrcT.ledger (its := (strValues pl2).toArray) (k := 0) rfl F18 N18 (by k_mem) (by rw [hpl20, sizeLine_eq]; omega) fun g2 => ?_
        refine restT_of (Txt.split y (Str.ofString "/")).length (fun i ys nw => StrsAre ys (((Txt.split y (Str.ofString "/")).take i).filter keepC) ∧ nw = (I6, oI6) :: (C6, oC6) :: (D6, LCg.lst ([] ++ [.ref Y1])) :: (Y1, listOf ys1.toArray ys1.length) :: (SP, listOf [Value.ref P1, Value.ref P2].toArray 2) :: (P2, listOf (strValues pl2).toArray 0) :: (P1, listOf (strValues pl1).toArray 0) :: (t, tupObj [Value.str x tx, Value.str y ty]) :: (L' + 1 + 1, oC2) :: (L' + 1, oS2) :: news) ?_ ?_ _ 0 [] _ (by rw [hpl20]; omega) ⟨.nil, rfl⟩
        · rintro i ys nw v I5 oI5 C5 oC5 D5 m6 h12 tk12 E5 hi5 ⟨hys, rfl⟩ hv5 hoC5 hm6 F17 N17 off17 ne17
          obtain ⟨c5, t5, rfl, hc5⟩ := apl2.item i v (by simpa using hv5)
          have hc5l : c5.length < 100 := Nat.lt_of_le_of_lt (hle2 _ (List.mem_of_getElem? hc5)) hyz
          (repeat' (first | ((fail_if_success (with_reducible first | refine Mine.z1 ?_ | refine Mine.z2 ?_ | refine Mine.z3 ?_ | refine Mine.z4 ?_ | refine Mine.z5 ?_ | refine Mine.z6 ?_ | refine Mine.z7 ?_ | refine Mine.z8 ?_ | refine Mine.z9 ?_ | refine Mine.z10 ?_ | refine Mine.z11 ?_ | refine Mine.z12 ?_ | refine Mine.z13 ?_ | refine Mine.z14 ?_ | refine Mine.z15 ?_ | refine Mine.z16 ?_)); (first | (with_reducible refine Mine.z18 ?_) | (fail_if_success (with_reducible refine Mine.z17 ?_))); (first | (k_unfold; (try dsimp only)) | walk1 | (dsimp only; walk1))) | fail "no step"))
          · rename News _ _ _ _ => N17
            rename_i hz1 hz2
            refine LCg.CompEnd.intro F17 N17 ((I6, oI6) :: (C6, oC6) :: (D6, LCg.lst ([] ++ [.ref Y1])) :: (Y1, listOf ys1.toArray ys1.length) :: (SP, listOf [Value.ref P1, Value.ref P2].toArray 2) :: (P2, listOf (strValues pl2).toArray 0) :: (P1, listOf (strValues pl1).toArray 0) :: (t, tupObj [Value.str x tx, Value.str y ty]) :: (L' + 1 + 1, oC2) :: (L' + 1, oS2) :: news) (fun _ h => h) off17 (.inr ⟨_, by k_mem, rfl, _, rfl⟩) ⟨filt_yes hc5 hz1 hz2 hys, rfl⟩
          · rename News _ _ _ _ => N17
            rename_i hz1 hz2
            refine LCg.CompEnd.intro F17 N17 ((I6, oI6) :: (C6, oC6) :: (D6, LCg.lst ([] ++ [.ref Y1])) :: (Y1, listOf ys1.toArray ys1.length) :: (SP, listOf [Value.ref P1, Value.ref P2].toArray 2) :: (P2, listOf (strValues pl2).toArray 0) :: (P1, listOf (strValues pl1).toArray 0) :: (t, tupObj [Value.str x tx, Value.str y ty]) :: (L' + 1 + 1, oC2) :: (L' + 1, oS2) :: news) (fun _ h => h) off17 (.inr ⟨_, by k_mem, rfl, _, rfl⟩) ⟨filt_no1 hc5 hz2 hys, rfl⟩
          · rename News _ _ _ _ => N17
            rename_i hz1
            refine LCg.CompEnd.intro F17 N17 ((I6, oI6) :: (C6, oC6) :: (D6, LCg.lst ([] ++ [.ref Y1])) :: (Y1, listOf ys1.toArray ys1.length) :: (SP, listOf [Value.ref P1, Value.ref P2].toArray 2) :: (P2, listOf (strValues pl2).toArray 0) :: (P1, listOf (strValues pl1).toArray 0) :: (t, tupObj [Value.str x tx, Value.str y ty]) :: (L' + 1 + 1, oC2) :: (L' + 1, oS2) :: news) (fun _ h => h) off17 (.inr ⟨_, by k_mem, rfl, _, rfl⟩) ⟨filt_no2 hc5 hz1 hys, rfl⟩
        · rintro ys2 _ ⟨hys2, rfl⟩ Y2 h12 tk12 F17 N17 oY2
          have oY2' := off1_mem oY2
          have o18 := off18.mem
          rw [List.take_length, hyf] at hys2
          refine LCg.CompEnd.intro F17 N17 ((Y2, listOf ys2.toArray ys2.length) :: (Y1, listOf ys1.toArray ys1.length) :: (SP, listOf [Value.ref P1, Value.ref P2].toArray 2) :: (P2, listOf (strValues pl2).toArray 0) :: (P1, listOf (strValues pl1).toArray 0) :: (t, tupObj [Value.str x tx, Value.str y ty]) :: (L' + 1 + 1, oC2) :: (L' + 1, oS2) :: news) (by tb_start) (LCg.Off3.of fun p hp => ?_) (.inr ⟨_, by k_mem, rfl, _, rfl⟩) ?_
          · rcases List.mem_cons.mp hp with rfl | hp
            · exact ⟨Ne.symm (oY2' _ (.head _)), Ne.symm (oY2' _ (.tail _ (.head _))), Ne.symm (oY2' _ (.tail _ (.tail _ (.head _))))⟩
            · exact o18 p hp
          have oY2 : ∀ p ∈ (Y1, listOf ys1.toArray ys1.length) :: (SP, listOf [Value.ref P1, Value.ref P2].toArray 2) :: (P2, listOf (strValues pl2).toArray 0) :: (P1, listOf (strValues pl1).toArray 0) :: (t, tupObj [Value.str x tx, Value.str y ty]) :: (L' + 1 + 1, oC2) :: (L' + 1, oS2) :: news, p.1 ≠ Y2 := fun p hp => oY2' p (.tail _ (.tail _ (.tail _ hp)))
          clear oY2' o18 off18 ne18 F18 F17 N17
          refine LCg.CompRest.zero ?_
          rintro SQ h14 tk14 F19 N19 oSQ
          have N20 : News g' L' h14 ((SQ, listOf [Value.ref Y1, Value.ref Y2].toArray 2) :: (Y2, listOf ys2.toArray ys2.length) :: (Y1, listOf ys1.toArray ys1.length) :: (SP, listOf [Value.ref P1, Value.ref P2].toArray 2) :: (P2, listOf (strValues pl2).toArray 0) :: (P1, listOf (strValues pl1).toArray 0) :: (t, tupObj [Value.str x tx, Value.str y ty]) :: (L' + 1 + 1, oC2) :: (L' + 1, oS2) :: news) := N19
          have oSQ := off1_mem oSQ
          clear N19
          rename_i zi8 zi7 zi6 zi5 zi4 zi3 zi2 zi1 zi0
          clear hxz hyz hxs hys hxf hyf hx1 hy1 h3 zh11 dC2 zi8 zi7 hpl1 apl1 hle1 hpl2 apl2 hle2 h8 tk8 S3 h9 tk9 off3 h10 m5 h11 tk11 E4 hoC4 N16 hv4 hm5 hpl0 zi5 zi4 zi3 m6 h13 tk13 E6 hoC6 N18 hv6 hm6 hpl20 g2 h12 tk12
          revert prog w zh16 loose mean mg mb dp un gd env outer h₀ L m s Q E l x y tx ty X T hu p q hp hq news hQ g' L' X' T' t zh15 zh12 oS2 dS2 oC2 pl1 P1 pl2 P2 SP zi6 tk g I4 oI4 C4 oC4 D4 ys1 hys1 Y1 zi2 oY1 I6 oI6 C6 oC6 D6 ys2 hys2 Y2 zi1 oY2 SQ h14 tk14 F19 zi0 N20 oSQ
          exact hCutA.out
end Mine

namespace Mine
theorem common3 : common2.C := by
  intro prog w zh16 loose mean mg mb dp un gd env outer h₀ L m s Q E l x y tx ty X T hu p q hp hq news hQ g' L' X' T' t zh15 zh12 oS2 dS2 oC2 pl1 P1 pl2 P2 SP zi6 tk g I4 oI4 C4 oC4 D4 ys1 hys1 Y1 zi2 oY1 I6 oI6 C6 oC6 D6 ys2 hys2 Y2 zi1 oY2 SQ h14 tk14 F19 zi0 N20 oSQ
  w_top off
  (try dsimp only)
  k_unmd
  (repeat' (first | ((fail_if_success (with_reducible first | refine Mine.z1 ?_ | refine Mine.z2 ?_ | refine Mine.z3 ?_ | refine Mine.z4 ?_ | refine Mine.z5 ?_ | refine Mine.z6 ?_ | refine Mine.z7 ?_ | refine Mine.z8 ?_ | refine Mine.z9 ?_ | refine Mine.z10 ?_ | refine Mine.z11 ?_ | refine Mine.z12 ?_ | refine Mine.z13 ?_ | refine Mine.z14 ?_ | refine Mine.z15 ?_ | refine Mine.z16 ?_)); (first | (with_reducible refine Mine.z18 ?_) | (fail_if_success (with_reducible refine Mine.z17 ?_))); (first | (k_unfold; (try dsimp only)) | walk1 | (dsimp only; walk1))) | fail "no step"))
  obtain ⟨A1, A2, ya, yb, a, b, eA1, eA2, hA1, hA2, ha, hb, haP, hbP, hab, hle⟩ := pick hp hq (Y1 := Y1) (Y2 := Y2) hys1 hys2
  rename Fr _ _ _ _ => F20
  refine call_min2 (r := ltSS (q.map nm) (p.map nm)) rfl F20 N20 (.head _) (fun h tk Q' E' F N hq' => ?_) fun h15 tk15 F21 N21 => ?_
  · refine rc_lt (N _ (.tail _ (.head _))).1 (N _ (.tail _ (.tail _ (.head _)))).1 hys2 hys1 (by ktr_units) hq'
  rw [eA1]
  clear F20 N20
  (try dsimp only)
  k_unmd
  (repeat' (first | ((fail_if_success (with_reducible first | refine Mine.z1 ?_ | refine Mine.z2 ?_ | refine Mine.z3 ?_ | refine Mine.z4 ?_ | refine Mine.z5 ?_ | refine Mine.z6 ?_ | refine Mine.z7 ?_ | refine Mine.z8 ?_ | refine Mine.z9 ?_ | refine Mine.z10 ?_ | refine Mine.z11 ?_ | refine Mine.z12 ?_ | refine Mine.z13 ?_ | refine Mine.z14 ?_ | refine Mine.z15 ?_ | refine Mine.z16 ?_)); (first | (with_reducible refine Mine.z18 ?_) | (fail_if_success (with_reducible refine Mine.z17 ?_))); (first | (k_unfold; (try dsimp only)) | walk1 | (dsimp only; walk1))) | fail "no step"))
  rename Fr _ _ _ _ => F22
  rename News _ _ _ _ => N22
  refine call_max2 (r := ltSS (p.map nm) (q.map nm)) rfl F22 N22 (.head _) (fun h tk Q' E' F N hq' => ?_) fun h16 tk16 F23 N23 => ?_
  · refine rc_gt (N _ (.tail _ (.head _))).1 (N _ (.tail _ (.tail _ (.head _)))).1 hys2 hys1 (by ktr_units) hq'
  rw [eA2]
  clear F22 N22
  (try dsimp only)
  k_unmd
  (repeat' (first | ((fail_if_success (with_reducible first | refine Mine.z1 ?_ | refine Mine.z2 ?_ | refine Mine.z3 ?_ | refine Mine.z4 ?_ | refine Mine.z5 ?_ | refine Mine.z6 ?_ | refine Mine.z7 ?_ | refine Mine.z8 ?_ | refine Mine.z9 ?_ | refine Mine.z10 ?_ | refine Mine.z11 ?_ | refine Mine.z12 ?_ | refine Mine.z13 ?_ | refine Mine.z14 ?_ | refine Mine.z15 ?_ | refine Mine.z16 ?_)); (first | (with_reducible refine Mine.z18 ?_) | (fail_if_success (with_reducible refine Mine.z17 ?_))); (first | (k_unfold; (try dsimp only)) | walk1 | (dsimp only; walk1))) | fail "no step"))
  rename Fr _ _ _ _ => F24
  rename News _ _ _ _ => N24
  have N25 := news_sub (news' := (A1, listOf ya.toArray ya.length) :: (A2, listOf yb.toArray yb.length) :: (L' + 1, oS2) :: news) N24 (fun p hp => by
    simp only [List.mem_cons] at hp ⊢
    rcases hp with rfl | rfl | h | h
    · rcases hA1 with ⟨rfl, rfl⟩ | ⟨rfl, rfl⟩ <;> simp
    · rcases hA2 with ⟨rfl, rfl⟩ | ⟨rfl, rfl⟩ <;> simp
    · simp [h]
    · simp [h])
  clear N24 oSQ hys1 hys2
  have hya := ha.len_eq
  have hyb := hb.len_eq
  have haL := (join_pathS a haP).2
  have hbL := (join_pathS b hbP).2
  rw [List.length_map] at hya hyb
  refine For_E F24 ?_
  (repeat' (first | ((fail_if_success (with_reducible first | refine Mine.z1 ?_ | refine Mine.z2 ?_ | refine Mine.z3 ?_ | refine Mine.z4 ?_ | refine Mine.z5 ?_ | refine Mine.z6 ?_ | refine Mine.z7 ?_ | refine Mine.z8 ?_ | refine Mine.z9 ?_ | refine Mine.z10 ?_ | refine Mine.z11 ?_ | refine Mine.z12 ?_ | refine Mine.z13 ?_ | refine Mine.z14 ?_ | refine Mine.z15 ?_ | refine Mine.z16 ?_)); (first | (with_reducible refine Mine.z18 ?_) | (fail_if_success (with_reducible refine Mine.z17 ?_))); (first | (k_unfold; (try dsimp only)) | walk1 | (dsimp only; walk1))) | fail "no step"))
  refine enum_E (fun i m' nw => nw = (A1, listOf ya.toArray ya.length) :: (A2, listOf yb.toArray yb.length) :: (L' + 1, oS2) :: news ∧ m' (Str.ofString "s1") = some (.ref A1) ∧ m' (Str.ofString "s2") = some (.ref A2) ∧ m' (Str.ofString "common") = some (.ref A1) ∧ m' (Str.ofString "isabs") = some (.bool true) ∧ a.take i = b.take i) rfl F24 N25 (.head _) ⟨rfl, by rfl, by rfl, by rfl, by rfl, rfl⟩ ?_ ?_
  · rintro i v ti m7 nw7 h17 tk17 own7 e7 I7 hv7 ⟨rfl, g1, g2, g3, g4, hag⟩ hlt7 hown7 hoff7 F26 N26
    clear F24 N25
    obtain ⟨c7, tc7, rfl, hc7⟩ := ha.item i v hv7
    have hi7 : i < a.length := by have := (List.getElem?_eq_some_iff.mp hv7).1; omega
    have hc7' : c7 = nm (a.getD i 0) := by
      rw [List.getElem?_map, List.getElem?_eq_getElem hi7] at hc7
      simp at hc7
      rw [← hc7]; simp [List.getD, List.getElem?_eq_getElem hi7]
    have hf := loop_facts a haP b hbP hle i (by
      have : i = 0 ∨ i = 1 ∨ i = 2 ∨ i = 3 := le3 (Nat.le_of_lt (Nat.lt_of_lt_of_le hi7 haL))
      rcases this with rfl | rfl | rfl | rfl <;> simp) hi7 hag
    obtain ⟨td7, hd7⟩ := hb.at (j := i) (y := nm (b.getD i 0)) (by
      rw [List.getElem?_map, List.getElem?_eq_getElem hf.1]; simp [List.getD, List.getElem?_eq_getElem hf.1])
    have F27 := fr_knowns [(Str.ofString "s1", Value.ref A1), (Str.ofString "s2", Value.ref A2), (Str.ofString "common", Value.ref A1), (Str.ofString "isabs", Value.bool true)] F26 (known_cons g1 (known_cons g2 (known_cons g3 (known_cons g4 known_nil))))
    have N27 := news_sub (news' := (A1, listOf ya.toArray ya.length) :: (A2, listOf yb.toArray yb.length) :: (L' + 1, oS2) :: (own7 ++ news)) N26 (by tb_start)
    have hlow : ∀ p ∈ own7 ++ news, p ∈ own7 ++ news := fun _ h => h
    generalize hR7 : own7 ++ news = R7 at N27
    clear F26
    dsimp only [List.lookup] at F27
    (repeat' (first | ((fail_if_success (with_reducible first | refine Mine.z1 ?_ | refine Mine.z2 ?_ | refine Mine.z3 ?_ | refine Mine.z4 ?_ | refine Mine.z5 ?_ | refine Mine.z6 ?_ | refine Mine.z7 ?_ | refine Mine.z8 ?_ | refine Mine.z9 ?_ | refine Mine.z10 ?_ | refine Mine.z11 ?_ | refine Mine.z12 ?_ | refine Mine.z13 ?_ | refine Mine.z14 ?_ | refine Mine.z15 ?_ | refine Mine.z16 ?_)); (first | (with_reducible refine Mine.z18 ?_) | (fail_if_success (with_reducible refine Mine.z17 ?_))); (first | (k_unfold; (try dsimp only)) | walk1 | (dsimp only; walk1))) | fail "no step"))
    rename News _ _ _ _ => N28
    rename Fr _ _ _ _ => F28
    refine item_at (N28 _ (.tail _ (.head _))).1 rfl hd7 (by omega) ?_
    subst hc7'
    (try dsimp only)
    k_unmd
    (repeat' (first | ((fail_if_success (with_reducible first | refine Mine.z1 ?_ | refine Mine.z2 ?_ | refine Mine.z3 ?_ | refine Mine.z4 ?_ | refine Mine.z5 ?_ | refine Mine.z6 ?_ | refine Mine.z7 ?_ | refine Mine.z8 ?_ | refine Mine.z9 ?_ | refine Mine.z10 ?_ | refine Mine.z11 ?_ | refine Mine.z12 ?_ | refine Mine.z13 ?_ | refine Mine.z14 ?_ | refine Mine.z15 ?_ | refine Mine.z16 ?_)); (first | (with_reducible refine Mine.z18 ?_) | (fail_if_success (with_reducible refine Mine.z17 ?_))); (first | (k_unfold; (try dsimp only)) | walk1 | (dsimp only; walk1))) | fail "no step"))
    · rename ((_ != _) = true) => hne
      rename News _ _ _ _ => N29
      rename Fr _ _ _ _ => F29
      refine upto_at (b := i) F29 N29 (N29 _ (.head _)).1 rfl (by omega) (fun K7 h18 F30 N30 lt30 ltL30 => ?_)
      have hK := ha.take' i
      rw [← List.map_take, ← hf.2.1 hne, hab] at hK
      clear F29 N29
      (try dsimp only)
      k_unmd
      (repeat' (first | ((fail_if_success (with_reducible first | refine Mine.z1 ?_ | refine Mine.z2 ?_ | refine Mine.z3 ?_ | refine Mine.z4 ?_ | refine Mine.z5 ?_ | refine Mine.z6 ?_ | refine Mine.z7 ?_ | refine Mine.z8 ?_ | refine Mine.z9 ?_ | refine Mine.z10 ?_ | refine Mine.z11 ?_ | refine Mine.z12 ?_ | refine Mine.z13 ?_ | refine Mine.z14 ?_ | refine Mine.z15 ?_ | refine Mine.z16 ?_)); (first | (with_reducible refine Mine.z18 ?_) | (fail_if_success (with_reducible refine Mine.z17 ?_))); (first | (k_unfold; (try dsimp only)) | walk1 | (dsimp only; walk1))) | fail "no step"))
      (try dsimp only [TurnEndE])
      (try dsimp only)
      k_unmd
      (repeat' (first | ((fail_if_success (with_reducible first | refine Mine.z1 ?_ | refine Mine.z2 ?_ | refine Mine.z3 ?_ | refine Mine.z4 ?_ | refine Mine.z5 ?_ | refine Mine.z6 ?_ | refine Mine.z7 ?_ | refine Mine.z8 ?_ | refine Mine.z9 ?_ | refine Mine.z10 ?_ | refine Mine.z11 ?_ | refine Mine.z12 ?_ | refine Mine.z13 ?_ | refine Mine.z14 ?_ | refine Mine.z15 ?_ | refine Mine.z16 ?_)); (first | (with_reducible refine Mine.z18 ?_) | (fail_if_success (with_reducible refine Mine.z17 ?_))); (first | (k_unfold; (try dsimp only)) | walk1 | (dsimp only; walk1))) | fail "no step"))
      rename News _ _ _ _ => N40
      refine join_list (PySem.IsL.isList (N40 _ (.head _)).1) hK (Nat.le_trans (join_sum _ (lcp_comm_all p hp q hq).2.1) (by decide)) ?_
      (repeat' (first | ((fail_if_success (with_reducible first | refine Mine.z1 ?_ | refine Mine.z2 ?_ | refine Mine.z3 ?_ | refine Mine.z4 ?_ | refine Mine.z5 ?_ | refine Mine.z6 ?_ | refine Mine.z7 ?_ | refine Mine.z8 ?_ | refine Mine.z9 ?_ | refine Mine.z10 ?_ | refine Mine.z11 ?_ | refine Mine.z12 ?_ | refine Mine.z13 ?_ | refine Mine.z14 ?_ | refine Mine.z15 ?_ | refine Mine.z16 ?_)); (first | (with_reducible refine Mine.z18 ?_) | (fail_if_success (with_reducible refine Mine.z17 ?_))); (first | (k_unfold; (try dsimp only)) | walk1 | (dsimp only; walk1))) | fail "no step"))
      refine add_path (lcp_comm_all p hp q hq).2.1 fun t9 k9 => ?_
      (repeat' (first | ((fail_if_success (with_reducible first | refine Mine.z1 ?_ | refine Mine.z2 ?_ | refine Mine.z3 ?_ | refine Mine.z4 ?_ | refine Mine.z5 ?_ | refine Mine.z6 ?_ | refine Mine.z7 ?_ | refine Mine.z8 ?_ | refine Mine.z9 ?_ | refine Mine.z10 ?_ | refine Mine.z11 ?_ | refine Mine.z12 ?_ | refine Mine.z13 ?_ | refine Mine.z14 ?_ | refine Mine.z15 ?_ | refine Mine.z16 ?_)); (first | (with_reducible refine Mine.z18 ?_) | (fail_if_success (with_reducible refine Mine.z17 ?_))); (first | (k_unfold; (try dsimp only)) | walk1 | (dsimp only; walk1))) | fail "no step"))
      rename_i kF kN _ _
      exact hQ _ _ _ kF (news_sub kN fun p hp => by rw [← hR7]; simp only [List.mem_cons, List.mem_append]; simp [hp])
    · rename ((_ != _) = false) => hne
      rename News _ _ _ _ => N29
      rename Fr _ _ _ _ => F29
      refine turn_nextE F29 N29 ((A1, listOf ya.toArray ya.length) :: (A2, listOf yb.toArray yb.length) :: (L' + 1, oS2) :: news) (fun p hp => ?_) hoff7 ⟨rfl, by rfl, by rfl, by rfl, by rfl, hf.2.2 hne⟩
      rw [← hR7]
      simp only [List.mem_cons, List.mem_append] at hp ⊢; rcases hp with h | h | h | h | h <;> simp [h]
  · rintro m7 nw7 h17 tk17 ⟨rfl, g1, g2, g3, g4, hag⟩ F26 N26
    have hK := ha
    rw [← loop_end a haP b hbP (by rw [hya] at hag; exact hag), hab] at hK
    clear F24 N25
    have F27 := fr_knowns [(Str.ofString "common", Value.ref A1), (Str.ofString "isabs", Value.bool true)] F26 (known_cons g3 (known_cons g4 known_nil))
    clear F26
    dsimp only [List.lookup] at F27
    (try dsimp only)
    k_unmd
    (repeat' (first | ((fail_if_success (with_reducible first | refine Mine.z1 ?_ | refine Mine.z2 ?_ | refine Mine.z3 ?_ | refine Mine.z4 ?_ | refine Mine.z5 ?_ | refine Mine.z6 ?_ | refine Mine.z7 ?_ | refine Mine.z8 ?_ | refine Mine.z9 ?_ | refine Mine.z10 ?_ | refine Mine.z11 ?_ | refine Mine.z12 ?_ | refine Mine.z13 ?_ | refine Mine.z14 ?_ | refine Mine.z15 ?_ | refine Mine.z16 ?_)); (first | (with_reducible refine Mine.z18 ?_) | (fail_if_success (with_reducible refine Mine.z17 ?_))); (first | (k_unfold; (try dsimp only)) | walk1 | (dsimp only; walk1))) | fail "no step"))
    rename News _ _ _ _ => N40
    refine join_list (PySem.IsL.isList (N40 _ (.head _)).1) hK (Nat.le_trans (join_sum _ (lcp_comm_all p hp q hq).2.1) (by decide)) ?_
    (repeat' (first | ((fail_if_success (with_reducible first | refine Mine.z1 ?_ | refine Mine.z2 ?_ | refine Mine.z3 ?_ | refine Mine.z4 ?_ | refine Mine.z5 ?_ | refine Mine.z6 ?_ | refine Mine.z7 ?_ | refine Mine.z8 ?_ | refine Mine.z9 ?_ | refine Mine.z10 ?_ | refine Mine.z11 ?_ | refine Mine.z12 ?_ | refine Mine.z13 ?_ | refine Mine.z14 ?_ | refine Mine.z15 ?_ | refine Mine.z16 ?_)); (first | (with_reducible refine Mine.z18 ?_) | (fail_if_success (with_reducible refine Mine.z17 ?_))); (first | (k_unfold; (try dsimp only)) | walk1 | (dsimp only; walk1))) | fail "no step"))
    refine add_path (lcp_comm_all p hp q hq).2.1 fun t9 k9 => ?_
    (repeat' (first | ((fail_if_success (with_reducible first | refine Mine.z1 ?_ | refine Mine.z2 ?_ | refine Mine.z3 ?_ | refine Mine.z4 ?_ | refine Mine.z5 ?_ | refine Mine.z6 ?_ | refine Mine.z7 ?_ | refine Mine.z8 ?_ | refine Mine.z9 ?_ | refine Mine.z10 ?_ | refine Mine.z11 ?_ | refine Mine.z12 ?_ | refine Mine.z13 ?_ | refine Mine.z14 ?_ | refine Mine.z15 ?_ | refine Mine.z16 ?_)); (first | (with_reducible refine Mine.z18 ?_) | (fail_if_success (with_reducible refine Mine.z17 ?_))); (first | (k_unfold; (try dsimp only)) | walk1 | (dsimp only; walk1))) | fail "no step"))
    rename_i kF kN _ _
    exact hQ _ _ _ kF (news_sub kN fun p hp => by simp only [List.mem_cons]; simp [hp])
end Mine

namespace Mine
theorem common_c : ∀ {prog : Program} {w : World} {p : Program} {loose : List Str} {mean : ExcName → Option Value} {mg mb : Str → Option Value} {dp un : Nat} {gd : Option (List Code)} {env : Env} {A₀ : Around} {outer : List Env} {base h₀ : Heap} {L : Addr} {m : Str → Option Value} {s : Shared} {Q E : Value → Shared → Prop}
   {l : Addr} {x y : Str} {tx ty : Tok} {c : Nat}
   (B : Below A₀ base outer h₀) (F : Fr h₀ L s.heap m) (X : (hd.heap_39 w.params).In h₀) (T : Top p loose mean mg mb h₀) (hf : env.frame = some L) (hke : env.scope.kind = .function) (hd : dp < 890) (hu : un < 870) (hxz : x.length < 100) (hyz : y.length < 100) (hxs : (Txt.split x (Str.ofString "/")).length < 100) (hys : (Txt.split y (Str.ofString "/")).length < 100) {p q : List Nat} (hxf : (Txt.split x (Str.ofString "/")).filter keepC = p.map nm) (hyf : (Txt.split y (Str.ofString "/")).filter keepC = q.map nm) (hp : p ∈ [] :: allP) (hq : q ∈ [] :: allP) (hx1 : Txt.startswith x (Str.ofString "/") = true) (hy1 : Txt.startswith y (Str.ofString "/") = true) {news : List (Addr × Obj)} (N : News h₀ L s.heap news) (hl : (l, listOf [Value.str x tx, Value.str y ty].toArray c) ∈ news)
   (hQ : ∀ (h' : Heap) (tk' : Nat) (t : Tok), Fr h₀ L h' m → News h₀ L h' news → Q (.str (pathS (lcp p q)) t) { s with heap := h', toks := tk' }), wpAny (model prog w) { handled := none, depth := dp, frames := some (env :: outer), guards := gd, units := un } (call (.ref 183) [.ref l]) Q E s := by
  intro n0 n1 n2 n3 n4 n5 n6 n7 n8 n9 n10 n11 n12 n13 n14 n15 n16 n17 n18 n19 n20 n21 n22 n23 n24 n25 n26 n27 n28 n29 n30 n31 n32 n33 n34 n35 n36 n37 n38 n39 n40 n41 n42 n43 n44 n45 n46 n47 n48 n49
  exact common1.h ⟨common2.h ⟨common3⟩⟩ n0 n1 n2 n3 n4 n5 n6 n7 n8 n9 n10 n11 n12 n13 n14 n15 n16 n17 n18 n19 n20 n21 n22 n23 n24 n25 n26 n27 n28 n29 n30 n31 n32 n33 n34 n35 n36 n37 n38 n39 n40 n41 n42 n43 n44 n45 n46 n47 n48 n49
end Mine

namespace Mine
def law1 : Cut2 (PySem.Challenge.rw_il0111_01.Holds) := by
  apply Cut2.mk
  case h =>
    intro hCutA hCutB
    refine hd ?_
    k_go0
    (all_goals try k_fold)
    rename_i w s₀ s₁ mg mb G Y fa of pm doc ho hg KX XM V GL Tp Tb TE TW aw1 ow1 M aw2 aw3 hcd ns hs hlay0 hLy hr hl2 la1 la2 l ws la3 hLst ra w1 r0 hI hr2 hc1 hc2 K0 hD h1 tk1 F0 o1 o2 o3 d1 d2 d3 N0 X0
    clear G Y hs hlay0 hLy hr hl2 w1 r0 hr2 ra XM V Tb TE TW M
    (repeat' (first | ((fail_if_success (with_reducible first | refine Mine.z1 ?_ | refine Mine.z2 ?_ | refine Mine.z3 ?_ | refine Mine.z4 ?_ | refine Mine.z5 ?_ | refine Mine.z6 ?_ | refine Mine.z7 ?_ | refine Mine.z8 ?_ | refine Mine.z9 ?_ | refine Mine.z10 ?_ | refine Mine.z11 ?_ | refine Mine.z12 ?_ | refine Mine.z13 ?_ | refine Mine.z14 ?_ | refine Mine.z15 ?_ | refine Mine.z16 ?_)); (first | (with_reducible refine Mine.z18 ?_) | (fail_if_success (with_reducible refine Mine.z17 ?_))); (first | (k_unfold; (try dsimp only)) | walk1 | (dsimp only; walk1))) | fail "no step"))
    walk1
    (repeat' (first | ((fail_if_success (with_reducible first | refine Mine.z1 ?_ | refine Mine.z2 ?_ | refine Mine.z3 ?_ | refine Mine.z4 ?_ | refine Mine.z5 ?_ | refine Mine.z6 ?_ | refine Mine.z7 ?_ | refine Mine.z8 ?_ | refine Mine.z9 ?_ | refine Mine.z10 ?_ | refine Mine.z11 ?_ | refine Mine.z12 ?_ | refine Mine.z13 ?_ | refine Mine.z14 ?_ | refine Mine.z15 ?_ | refine Mine.z16 ?_)); (first | (with_reducible refine Mine.z18 ?_) | (fail_if_success (with_reducible refine Mine.z17 ?_))); (first | (k_unfold; (try dsimp only)) | walk1 | (dsimp only; walk1))) | fail "no step"))
    rename_i H hh1 l1a Ds ws1 hh2 hI0 hC0 hL0 l1b L14 hh3 l1c Dn ws2 hh4 F1 N1 hI1 l1d
    refine tree_c (by k_asm) F1 (by k_asm) (by k_asm) rfl rfl (by first | ktr_room | decide) (by first | ktr_units | decide) N1 (.head _) hI1 (by simp; first | grind | omega) fun h2 tk2 T ts ct own pss F2 N2 offT OK hin hap => ?_
    have hHT : H ≠ T := offT (H, _) (List.mem_append_right _ (.tail _ (.tail _ (.tail _ (.head _)))))
    have hHo : ∀ p ∈ own, p.1 ≠ H := fun p hp => hap p hp (H, _) (.tail _ (.tail _ (.tail _ (.head _))))
    have hIo : ∀ p ∈ own, p.1 ≠ s₁.heap.objs.size + 1 + 1 + 1 := fun p hp => hap p hp (_, o1) (.tail _ (.tail _ (.tail _ (.tail _ (.head _)))))
    have hPo : ∀ p ∈ own, p.1 ≠ s₁.heap.objs.size + 1 + 1 := fun p hp => hap p hp (_, o2) (.tail _ (.tail _ (.tail _ (.tail _ (.tail _ (.head _))))))
    have hCo : ∀ p ∈ own, p.1 ≠ s₁.heap.objs.size + 1 := fun p hp => hap p hp (_, o3) (.tail _ (.tail _ (.tail _ (.tail _ (.tail _ (.tail _ (.head _)))))))
    have hIT : s₁.heap.objs.size + 1 + 1 + 1 ≠ T := offT (_, o1) (List.mem_append_right _ (.tail _ (.tail _ (.tail _ (.tail _ (.head _))))))
    have hPT : s₁.heap.objs.size + 1 + 1 ≠ T := offT (_, o2) (List.mem_append_right _ (.tail _ (.tail _ (.tail _ (.tail _ (.tail _ (.head _)))))))
    have hCT : s₁.heap.objs.size + 1 ≠ T := offT (_, o3) (List.mem_append_right _ (.tail _ (.tail _ (.tail _ (.tail _ (.tail _ (.tail _ (.head _))))))))
    have oTn : ∀ p ∈ own, p.1 ≠ T := fun p hp => offT p (List.mem_append_left _ hp)
    clear F1 N1 hap offT
    (try dsimp only)
    k_unmd
    (repeat' (first | ((fail_if_success (with_reducible first | refine Mine.z1 ?_ | refine Mine.z2 ?_ | refine Mine.z3 ?_ | refine Mine.z4 ?_ | refine Mine.z5 ?_ | refine Mine.z6 ?_ | refine Mine.z7 ?_ | refine Mine.z8 ?_ | refine Mine.z9 ?_ | refine Mine.z10 ?_ | refine Mine.z11 ?_ | refine Mine.z12 ?_ | refine Mine.z13 ?_ | refine Mine.z14 ?_ | refine Mine.z15 ?_ | refine Mine.z16 ?_)); (first | (with_reducible refine Mine.z18 ?_) | (fail_if_success (with_reducible refine Mine.z17 ?_))); (first | (k_unfold; (try dsimp only)) | walk1 | (dsimp only; walk1))) | fail "no step"))
    rename Fr _ _ _ _ => F3
    rename News _ _ _ _ => N3
    have N4 := news_sub (news' := (s₁.heap.objs.size + 1, o3) :: (H, listOf (List.toArray []) 0) :: (T, listOf (List.toArray ts) ct) :: (s₁.heap.objs.size + 1 + 1, o2) :: (s₁.heap.objs.size + 1 + 1 + 1, o1) :: own) N3 (by tb_start)
    clear N3
    have hHC : H ≠ s₁.heap.objs.size + 1 := Nat.ne_of_gt l1a.2.2
    have hHP : H ≠ s₁.heap.objs.size + 1 + 1 := Nat.ne_of_gt l1a.2.1
    have hHI : H ≠ s₁.heap.objs.size + 1 + 1 + 1 := Nat.ne_of_gt l1a.1
    refine storeX_C F3 N4 rfl (UpdF.head fun p hp => ?_) d3 (fun h5 oH F5 N5 dH => ?_) rfl rfl
    · simp only [List.mem_cons] at hp
      rcases hp with rfl | rfl | rfl | rfl | hp
      · exact hHC
      · exact Ne.symm hCT
      · exact Nat.ne_of_gt (Nat.lt_succ_self _)
      · exact Nat.ne_of_gt (Nat.lt_succ_of_lt (Nat.lt_succ_self _))
      · exact hCo p hp
    clear F3 N4
    (try dsimp only)
    k_unmd
    (repeat' (first | ((fail_if_success (with_reducible first | refine Mine.z1 ?_ | refine Mine.z2 ?_ | refine Mine.z3 ?_ | refine Mine.z4 ?_ | refine Mine.z5 ?_ | refine Mine.z6 ?_ | refine Mine.z7 ?_ | refine Mine.z8 ?_ | refine Mine.z9 ?_ | refine Mine.z10 ?_ | refine Mine.z11 ?_ | refine Mine.z12 ?_ | refine Mine.z13 ?_ | refine Mine.z14 ?_ | refine Mine.z15 ?_ | refine Mine.z16 ?_)); (first | (with_reducible refine Mine.z18 ?_) | (fail_if_success (with_reducible refine Mine.z17 ?_))); (first | (k_unfold; (try dsimp only)) | walk1 | (dsimp only; walk1))) | fail "no step"))
    rename Fr _ _ _ _ => F6
    rename News _ _ _ _ => N6
    have hownR : ∀ p ∈ own, p ∈ (s₁.heap.objs.size + 1, oH) :: (T, listOf (List.toArray ts) ct) :: (s₁.heap.objs.size + 1 + 1, o2) :: (s₁.heap.objs.size + 1 + 1 + 1, o1) :: own := fun p hp => .tail _ (.tail _ (.tail _ (.tail _ hp)))
    obtain ⟨κ, hκ, hgood⟩ := tree_kappa N6 (fun p hp => .tail _ (.tail _ (.tail _ (.tail _ (.tail _ hp))))) OK
    have hinj := tree_inj OK hκ
    have htl := tree_len OK
    have hRH : ∀ p ∈ (s₁.heap.objs.size + 1, oH) :: (T, listOf (List.toArray ts) ct) :: (s₁.heap.objs.size + 1 + 1, o2) :: (s₁.heap.objs.size + 1 + 1 + 1, o1) :: own, p.1 ≠ H := fun p hp => by
      simp only [List.mem_cons] at hp
      rcases hp with rfl | rfl | rfl | rfl | hp
      · exact Ne.symm hHC
      · exact Ne.symm hHT
      · exact Ne.symm hHP
      · exact Ne.symm hHI
      · exact hHo p hp
    have hgR : ∀ v ∈ ts, Good ((s₁.heap.objs.size + 1, oH) :: (T, listOf (List.toArray ts) ct) :: (s₁.heap.objs.size + 1 + 1, o2) :: (s₁.heap.objs.size + 1 + 1 + 1, o1) :: own) κ v := fun v hv => let ⟨a, xs, n, ds, e, hm, hx⟩ := hgood v hv; ⟨a, xs, n, ds, e, hownR _ hm, hx⟩
    have N7 := news_sub (news' := (H, listOf (List.toArray []) 0) :: (s₁.heap.objs.size + 1, oH) :: (T, listOf (List.toArray ts) ct) :: (s₁.heap.objs.size + 1 + 1, o2) :: (s₁.heap.objs.size + 1 + 1 + 1, o1) :: own) N6 (by tb_start)
    clear N6
    refine For_G F6 ?_
    (repeat' (first | ((fail_if_success (with_reducible first | refine Mine.z1 ?_ | refine Mine.z2 ?_ | refine Mine.z3 ?_ | refine Mine.z4 ?_ | refine Mine.z5 ?_ | refine Mine.z6 ?_ | refine Mine.z7 ?_ | refine Mine.z8 ?_ | refine Mine.z9 ?_ | refine Mine.z10 ?_ | refine Mine.z11 ?_ | refine Mine.z12 ?_ | refine Mine.z13 ?_ | refine Mine.z14 ?_ | refine Mine.z15 ?_ | refine Mine.z16 ?_)); (first | (with_reducible refine Mine.z18 ?_) | (fail_if_success (with_reducible refine Mine.z17 ?_))); (first | (k_unfold; (try dsimp only)) | walk1 | (dsimp only; walk1))) | fail "no step"))
    refine iterG_list (fun i m' nw => ∃ hv hn, nw = (H, listOf (List.toArray hv) hn) :: (s₁.heap.objs.size + 1, oH) :: (T, listOf (List.toArray ts) ct) :: (s₁.heap.objs.size + 1 + 1, o2) :: (s₁.heap.objs.size + 1 + 1 + 1, o1) :: own ∧ m' (Str.ofString "tree") = some (.ref T) ∧ m' (Str.ofString "script") = some (.ref l) ∧ hv.Perm (ts.take i) ∧ HeapOk κ hv) rfl F6 N7 (.tail _ (.tail _ (.head _))) ⟨[], 0, rfl, by rfl, by rfl, by simp, fun i _ h => by simp at h⟩ ?_ ?_
    · rintro i v m7 nw7 h7 tk7 ow7 I7 oI7 hv7 ⟨hv, hn, rfl, g1, g2, hperm, hO⟩ hI7 hTI hlt7 hown7 hoff7 F8 N8
      clear F6 N7
      have hvts : v ∈ ts := List.mem_of_getElem? hv7
      have hil : i < ts.length := (List.getElem?_eq_some_iff.mp hv7).1
      have F9 := fr_knowns [(Str.ofString "tree", Value.ref T), (Str.ofString "script", Value.ref l)] F8 (known_cons g1 (known_cons g2 known_nil))
      have N9 := news_sub (news' := (H, listOf (List.toArray hv) hn) :: (s₁.heap.objs.size + 1, oH) :: (ow7 ++ ((s₁.heap.objs.size + 1, oH) :: (T, listOf (List.toArray ts) ct) :: (s₁.heap.objs.size + 1 + 1, o2) :: (s₁.heap.objs.size + 1 + 1 + 1, o1) :: own))) N8 (by tb_start)
      clear F8 N8
      dsimp only [List.lookup] at F9
      have hlen : hv.length = i := by rw [hperm.length_eq, List.length_take]; omega
      have hmemv : ∀ u ∈ hv, u ∈ ts := fun u hu => List.mem_of_mem_take (hperm.mem_iff.mp hu)
      have hRR : ∀ p ∈ (s₁.heap.objs.size + 1, oH) :: (T, listOf (List.toArray ts) ct) :: (s₁.heap.objs.size + 1 + 1, o2) :: (s₁.heap.objs.size + 1 + 1 + 1, o1) :: own, p ∈ (s₁.heap.objs.size + 1, oH) :: (ow7 ++ ((s₁.heap.objs.size + 1, oH) :: (T, listOf (List.toArray ts) ct) :: (s₁.heap.objs.size + 1 + 1, o2) :: (s₁.heap.objs.size + 1 + 1 + 1, o1) :: own)) := fun p hp => .tail _ (List.mem_append_right _ hp)
      have hoR : ∀ p ∈ (s₁.heap.objs.size + 1, oH) :: (ow7 ++ ((s₁.heap.objs.size + 1, oH) :: (T, listOf (List.toArray ts) ct) :: (s₁.heap.objs.size + 1 + 1, o2) :: (s₁.heap.objs.size + 1 + 1 + 1, o1) :: own)), p.1 ≠ H := fun p hp => by
        rcases List.mem_cons.mp hp with rfl | hp
        · exact Ne.symm hHC
        · rcases List.mem_append.mp hp with h | h
          · rcases hown7 p h with e | e
            · rw [e]; exact Nat.ne_of_gt (hlt7 _ (.head _))
            · rw [e]; exact Ne.symm hHT
          · exact hRH p h
      have gR : ∀ u ∈ ts, Good ((s₁.heap.objs.size + 1, oH) :: (ow7 ++ ((s₁.heap.objs.size + 1, oH) :: (T, listOf (List.toArray ts) ct) :: (s₁.heap.objs.size + 1 + 1, o2) :: (s₁.heap.objs.size + 1 + 1 + 1, o1) :: own))) κ u := fun u hu => let ⟨a, xs, n, ds, e, hm, hx⟩ := hgR u hu; ⟨a, xs, n, ds, e, hRR _ hm, hx⟩
      generalize hrr : ow7 ++ ((s₁.heap.objs.size + 1, oH) :: (T, listOf (List.toArray ts) ct) :: (s₁.heap.objs.size + 1 + 1, o2) :: (s₁.heap.objs.size + 1 + 1 + 1, o1) :: own) = rest7 at N9 hRR hoR gR
      (repeat' (first | ((fail_if_success (with_reducible first | refine Mine.z1 ?_ | refine Mine.z2 ?_ | refine Mine.z3 ?_ | refine Mine.z4 ?_ | refine Mine.z5 ?_ | refine Mine.z6 ?_ | refine Mine.z7 ?_ | refine Mine.z8 ?_ | refine Mine.z9 ?_ | refine Mine.z10 ?_ | refine Mine.z11 ?_ | refine Mine.z12 ?_ | refine Mine.z13 ?_ | refine Mine.z14 ?_ | refine Mine.z15 ?_ | refine Mine.z16 ?_)); (first | (with_reducible refine Mine.z18 ?_) | (fail_if_success (with_reducible refine Mine.z17 ?_))); (first | (k_unfold; (try dsimp only)) | walk1 | (dsimp only; walk1))) | fail "no step"))
      rename Fr _ _ _ _ => F10
      rename News _ _ _ _ => N10
      refine heappush_c (κ := κ) (by k_asm) F10 (by k_asm) (by k_asm) rfl rfl (by first | ktr_room | decide) (by first | ktr_units | decide) N10 hoR (by first | grind | omega) (fun u hu => gR u (hmemv u hu)) (gR v hvts) hO fun h8 tk8 hv8 hn8 F11 N11 hp8 hO8 => ?_
      clear F10 N10 F9
      (try dsimp only)
      k_unmd
      (repeat' (first | ((fail_if_success (with_reducible first | refine Mine.z1 ?_ | refine Mine.z2 ?_ | refine Mine.z3 ?_ | refine Mine.z4 ?_ | refine Mine.z5 ?_ | refine Mine.z6 ?_ | refine Mine.z7 ?_ | refine Mine.z8 ?_ | refine Mine.z9 ?_ | refine Mine.z10 ?_ | refine Mine.z11 ?_ | refine Mine.z12 ?_ | refine Mine.z13 ?_ | refine Mine.z14 ?_ | refine Mine.z15 ?_ | refine Mine.z16 ?_)); (first | (with_reducible refine Mine.z18 ?_) | (fail_if_success (with_reducible refine Mine.z17 ?_))); (first | (k_unfold; (try dsimp only)) | walk1 | (dsimp only; walk1))) | fail "no step"))
      refine turn_next F11 N11 ((H, listOf (List.toArray hv8) hn8) :: (s₁.heap.objs.size + 1, oH) :: (T, listOf (List.toArray ts) ct) :: (s₁.heap.objs.size + 1 + 1, o2) :: (s₁.heap.objs.size + 1 + 1 + 1, o1) :: own) ?_ (fun p hp => ?_) ⟨hv8, hn8, rfl, by rfl, by rfl, ?_, hO8⟩
      · rw [← hrr]
        tb_start
      · rcases List.mem_cons.mp hp with rfl | hp
        · exact hoff7 (H, listOf (List.toArray hv) hn) (.head _)
        · exact hoff7 p (.tail _ hp)
      · refine hp8.trans ?_
        rw [List.take_add_one, hv7]
        exact hperm.append_right _
    · rintro m7 nw7 h7 tk7 ⟨hv, hn, rfl, g1, g2, hperm, hO⟩ F8 N8
      clear F6 N7
      rw [List.take_length] at hperm
      have F9 := fr_knowns [(Str.ofString "tree", Value.ref T), (Str.ofString "script", Value.ref l)] F8 (known_cons g1 (known_cons g2 known_nil))
      clear F8
      dsimp only [List.lookup] at F9
      (try dsimp only)
      k_unmd
      (repeat' (first | ((fail_if_success (with_reducible first | refine Mine.z1 ?_ | refine Mine.z2 ?_ | refine Mine.z3 ?_ | refine Mine.z4 ?_ | refine Mine.z5 ?_ | refine Mine.z6 ?_ | refine Mine.z7 ?_ | refine Mine.z8 ?_ | refine Mine.z9 ?_ | refine Mine.z10 ?_ | refine Mine.z11 ?_ | refine Mine.z12 ?_ | refine Mine.z13 ?_ | refine Mine.z14 ?_ | refine Mine.z15 ?_ | refine Mine.z16 ?_)); (first | (with_reducible refine Mine.z18 ?_) | (fail_if_success (with_reducible refine Mine.z17 ?_))); (first | (k_unfold; (try dsimp only)) | walk1 | (dsimp only; walk1))) | fail "no step"))
      have hnd := kap_nodup hinj
      refine LCg.Assign_ListComp_U F9 (by rfl) (by with_unfolding_all rfl) (by with_unfolding_all rfl) (by decide) (by rfl) (by decide) (by rfl) (by rfl) (by rfl) ?_
      (repeat' (first | ((fail_if_success (with_reducible first | refine Mine.z1 ?_ | refine Mine.z2 ?_ | refine Mine.z3 ?_ | refine Mine.z4 ?_ | refine Mine.z5 ?_ | refine Mine.z6 ?_ | refine Mine.z7 ?_ | refine Mine.z8 ?_ | refine Mine.z9 ?_ | refine Mine.z10 ?_ | refine Mine.z11 ?_ | refine Mine.z12 ?_ | refine Mine.z13 ?_ | refine Mine.z14 ?_ | refine Mine.z15 ?_ | refine Mine.z16 ?_)); (first | (with_reducible refine Mine.z18 ?_) | (fail_if_success (with_reducible refine Mine.z17 ?_))); (first | (k_unfold; (try dsimp only)) | walk1 | (dsimp only; walk1))) | fail "no step"))
      refine LCg.CompSrc.ledger (its := List.toArray ts) rfl F9 N8 (.tail _ (.tail _ (.head _))) (by rw [sizeLine_eq]; show (List.toArray ts).size ≤ _; rw [List.size_toArray]; first | grind | omega) fun g => ?_
      refine rest_of ts.length (fun i ys nw => ∃ hv hn, nw = (H, listOf (List.toArray hv) hn) :: (s₁.heap.objs.size + 1, oH) :: (T, listOf (List.toArray ts) ct) :: (s₁.heap.objs.size + 1 + 1, o2) :: (s₁.heap.objs.size + 1 + 1 + 1, o1) :: own ∧ (ys ++ hv).Perm ts ∧ Up κ ys ∧ (∀ y ∈ ys, ∀ u ∈ hv, κ y < κ u) ∧ HeapOk κ hv ∧ ys.length = i) ?_ ?_ _ 0 [] _ (by rw [List.size_toArray]; first | grind | omega) ⟨hv, hn, rfl, by simpa using hperm, List.Pairwise.nil, by simp, hO, rfl⟩
      · rintro i ys _ v I2 oI2 C oC D m2 h9 tk9 E' hi2 ⟨hv2, hn2, rfl, hp2, hU2, hlt2, hO2, hyl2⟩ hvv hoC hm2 F10 N10 off10 ne10
        (repeat' (first | ((fail_if_success (with_reducible first | refine Mine.z1 ?_ | refine Mine.z2 ?_ | refine Mine.z3 ?_ | refine Mine.z4 ?_ | refine Mine.z5 ?_ | refine Mine.z6 ?_ | refine Mine.z7 ?_ | refine Mine.z8 ?_ | refine Mine.z9 ?_ | refine Mine.z10 ?_ | refine Mine.z11 ?_ | refine Mine.z12 ?_ | refine Mine.z13 ?_ | refine Mine.z14 ?_ | refine Mine.z15 ?_ | refine Mine.z16 ?_)); (first | (with_reducible refine Mine.z18 ?_) | (fail_if_success (with_reducible refine Mine.z17 ?_))); (first | (k_unfold; (try dsimp only)) | walk1 | (dsimp only; walk1))) | fail "no step"))
        have o10 := off10.mem
        rename Fr _ _ _ _ => F11
        rename News _ _ _ _ => N11
        have N12 := news_sub (news' := (H, listOf (List.toArray hv2) hn2) :: (I2, oI2) :: (C, oC) :: (D, LCg.lst ys) :: (s₁.heap.objs.size + 1, oH) :: (T, listOf (List.toArray ts) ct) :: (s₁.heap.objs.size + 1 + 1, o2) :: (s₁.heap.objs.size + 1 + 1 + 1, o1) :: own) N11 (by tb_start)
        have hH0 := o10 (H, listOf (List.toArray hv2) hn2) (.head _)
        have hlen2 := hp2.length_eq
        rw [List.length_append] at hlen2
        refine heappop_c (κ := κ) (by k_asm) F11 (by k_asm) (by k_asm) rfl rfl (by first | ktr_room | decide) (by first | ktr_units | decide) N12 (fun p hp => ?_) (by first | grind | omega) (fun u hu => ?_) hO2 (by first | grind | omega) fun h10 tk10 r vs' n' F13 N13 hpr hOr hler => ?_
        · simp only [List.mem_cons] at hp
          rcases hp with rfl | rfl | rfl | hp
          · exact Ne.symm hH0.1
          · exact Ne.symm hH0.2.1
          · exact Ne.symm hH0.2.2
          · exact hRH p (by simpa using hp)
        · obtain ⟨a, xs, n, ds, e, hm, hx⟩ := hgR u (hp2.mem_iff.mp (List.mem_append_right _ hu))
          exact ⟨a, xs, n, ds, e, .tail _ (.tail _ (.tail _ hm)), hx⟩
        · have hst := pop_step hp2 hnd hU2 hlt2 hpr hler
          dsimp only [qk]
          refine LCg.CompEnd.intro F13 N13 ((H, listOf (List.toArray vs') n') :: (s₁.heap.objs.size + 1, oH) :: (T, listOf (List.toArray ts) ct) :: (s₁.heap.objs.size + 1 + 1, o2) :: (s₁.heap.objs.size + 1 + 1 + 1, o1) :: own) (by tb_start) (LCg.Off3.of fun p hp => ?_) (.inr ⟨_, .tail _ (.tail _ (.head _)), rfl, _, rfl⟩) ⟨vs', n', rfl, hst.1, hst.2.1, hst.2.2, hOr, by simp [hyl2]⟩
          rcases List.mem_cons.mp hp with rfl | hp
          · exact hH0
          · exact o10 p (.tail _ hp)
      · rintro pl _ ⟨hv2, hn2, rfl, hp2, hU2, hlt2, hO2, hyl2⟩ PL h9 tk9 F10 N10 oPL
        have hv0 : hv2 = [] := by
          have := hp2.length_eq
          rw [List.length_append] at this
          exact List.length_eq_zero_iff.mp (by first | grind | omega)
        subst hv0
        rw [List.append_nil] at hp2
        have oPL := off1_mem oPL
        (try dsimp only)
        k_unmd
        (repeat' (first | ((fail_if_success (with_reducible first | refine Mine.z1 ?_ | refine Mine.z2 ?_ | refine Mine.z3 ?_ | refine Mine.z4 ?_ | refine Mine.z5 ?_ | refine Mine.z6 ?_ | refine Mine.z7 ?_ | refine Mine.z8 ?_ | refine Mine.z9 ?_ | refine Mine.z10 ?_ | refine Mine.z11 ?_ | refine Mine.z12 ?_ | refine Mine.z13 ?_ | refine Mine.z14 ?_ | refine Mine.z15 ?_ | refine Mine.z16 ?_)); (first | (with_reducible refine Mine.z18 ?_) | (fail_if_success (with_reducible refine Mine.z17 ?_))); (first | (k_unfold; (try dsimp only)) | walk1 | (dsimp only; walk1))) | fail "no step"))
        rename Fr _ _ _ _ => F11
        rename News _ _ _ _ => N11
        have ht2 := tree_two OK (hin 14 (by simp))
        have hpm : ∀ p ∈ own, p ∈ (PL, LCg.lst pl) :: (H, listOf (List.toArray []) hn2) :: (s₁.heap.objs.size + 1, oH) :: (T, listOf (List.toArray ts) ct) :: (s₁.heap.objs.size + 1 + 1, o2) :: (s₁.heap.objs.size + 1 + 1 + 1, o1) :: own := fun p hp => .tail _ (.tail _ (hownR p hp))
        refine sorted_tree (κ := κ) F11 N11 (.tail _ (.tail _ (.tail _ (.head _)))) ht2 (by first | grind | omega) hpm hgood hinj (by first | ktr_units | decide) fun SD h10 out c' hpo hUo F12 N12 ltSD => ?_
        have epl : out = pl := up_unique hUo hU2 (hpo.trans hp2.symm)
        subst epl
        clear F11 N11
        (try dsimp only)
        k_unmd
        (repeat' (first | ((fail_if_success (with_reducible first | refine Mine.z1 ?_ | refine Mine.z2 ?_ | refine Mine.z3 ?_ | refine Mine.z4 ?_ | refine Mine.z5 ?_ | refine Mine.z6 ?_ | refine Mine.z7 ?_ | refine Mine.z8 ?_ | refine Mine.z9 ?_ | refine Mine.z10 ?_ | refine Mine.z11 ?_ | refine Mine.z12 ?_ | refine Mine.z13 ?_ | refine Mine.z14 ?_ | refine Mine.z15 ?_ | refine Mine.z16 ?_)); (first | (with_reducible refine Mine.z18 ?_) | (fail_if_success (with_reducible refine Mine.z17 ?_))); (first | (k_unfold; (try dsimp only)) | walk1 | (dsimp only; walk1))) | fail "no step"))
        refine ne_same (N12 _ (.tail _ (.head _))).1 (N12 _ (.head _)).1 (by first | ktr_units | decide) ?_
        (try dsimp only)
        k_unmd
        (repeat' (first | ((fail_if_success (with_reducible first | refine Mine.z1 ?_ | refine Mine.z2 ?_ | refine Mine.z3 ?_ | refine Mine.z4 ?_ | refine Mine.z5 ?_ | refine Mine.z6 ?_ | refine Mine.z7 ?_ | refine Mine.z8 ?_ | refine Mine.z9 ?_ | refine Mine.z10 ?_ | refine Mine.z11 ?_ | refine Mine.z12 ?_ | refine Mine.z13 ?_ | refine Mine.z14 ?_ | refine Mine.z15 ?_ | refine Mine.z16 ?_)); (first | (with_reducible refine Mine.z18 ?_) | (fail_if_success (with_reducible refine Mine.z17 ?_))); (first | (k_unfold; (try dsimp only)) | walk1 | (dsimp only; walk1))) | fail "no step"))
        rename News _ _ _ _ => N13
        refine ne_same (N13 _ (.tail _ (.tail _ (.tail _ (.head _))))).1 (N13 _ (.head _)).1 (by first | ktr_units | decide) ?_
        (try dsimp only)
        k_unmd
        (repeat' (first | ((fail_if_success (with_reducible first | refine Mine.z1 ?_ | refine Mine.z2 ?_ | refine Mine.z3 ?_ | refine Mine.z4 ?_ | refine Mine.z5 ?_ | refine Mine.z6 ?_ | refine Mine.z7 ?_ | refine Mine.z8 ?_ | refine Mine.z9 ?_ | refine Mine.z10 ?_ | refine Mine.z11 ?_ | refine Mine.z12 ?_ | refine Mine.z13 ?_ | refine Mine.z14 ?_ | refine Mine.z15 ?_ | refine Mine.z16 ?_)); (first | (with_reducible refine Mine.z18 ?_) | (fail_if_success (with_reducible refine Mine.z17 ?_))); (first | (k_unfold; (try dsimp only)) | walk1 | (dsimp only; walk1))) | fail "no step"))
        rename Fr _ _ _ _ => F14
        rename News _ _ _ _ => N14
        rename_i X1 _ _ ST0 _ _ _ _ _ _ Fo No hA hB
        clear Fo No
        obtain ⟨qs, hql, hqp, hqU, hqm⟩ := popped_paths OK hκ hpo hUo
        have hqA : ∀ ds ∈ qs, ds ∈ allP := fun ds h => OK.allp ds ((hqm ds).mp h)
        have hqC : ∀ ds ∈ qs, ds.dropLast = [] ∨ ds.dropLast ∈ qs := fun ds h => (OK.closed ds ((hqm ds).mp h)).imp id fun x => (hqm _).mpr x
        obtain ⟨tz, N15⟩ : ∃ tz, News s₁.heap s₁.heap.objs.size hB ((ST0, listOf [Value.str (Str.ofString "/") tz].toArray 0) :: (PL, listOf (List.toArray out) out.length) :: (s₁.heap.objs.size + 1, oH) :: (T, listOf (List.toArray ts) ct) :: (s₁.heap.objs.size + 1 + 1, o2) :: (s₁.heap.objs.size + 1 + 1 + 1, o1) :: own) := by
          apply Exists.intro
          intro p hp
          rcases List.mem_cons.mp hp with rfl | hp
          · exact N14 _ (.tail _ (.head _))
          · exact news_sub N14 (by tb_start) p hp
        clear N14
        refine For_G F14 ?_
        (repeat' (first | ((fail_if_success (with_reducible first | refine Mine.z1 ?_ | refine Mine.z2 ?_ | refine Mine.z3 ?_ | refine Mine.z4 ?_ | refine Mine.z5 ?_ | refine Mine.z6 ?_ | refine Mine.z7 ?_ | refine Mine.z8 ?_ | refine Mine.z9 ?_ | refine Mine.z10 ?_ | refine Mine.z11 ?_ | refine Mine.z12 ?_ | refine Mine.z13 ?_ | refine Mine.z14 ?_ | refine Mine.z15 ?_ | refine Mine.z16 ?_)); (first | (with_reducible refine Mine.z18 ?_) | (fail_if_success (with_reducible refine Mine.z17 ?_))); (first | (k_unfold; (try dsimp only)) | walk1 | (dsimp only; walk1))) | fail "no step"))
        refine iterG_list (fun i m' nw => ∃ ST sv sn, nw = (ST, listOf (List.toArray sv) sn) :: (PL, listOf (List.toArray out) out.length) :: (s₁.heap.objs.size + 1, oH) :: (T, listOf (List.toArray ts) ct) :: (s₁.heap.objs.size + 1 + 1, o2) :: (s₁.heap.objs.size + 1 + 1 + 1, o1) :: own ∧ StrsAre sv (prefs (prevOf qs i)) ∧ m' (Str.ofString "stack") = some (.ref ST) ∧ (∃ ta, m' (Str.ofString "ahead") = some (.str (pathS (prevOf qs i)) ta)) ∧ m' (Str.ofString "popped") = some (.ref PL) ∧ m' (Str.ofString "script") = some (.ref l)) rfl F14 N15 (.tail _ (.head _)) ⟨ST0, _, 0, rfl, .cons _ _ .nil, by rfl, ⟨_, by rfl⟩, by rfl, by rfl⟩ ?_ ?_
        · rintro i v m7 nw7 h7 tk7 ow7 I7 oI7 hv7 ⟨ST, sv, sn, rfl, hsv, g1, ⟨ta, g2⟩, g3, g4⟩ hI7 hTI hlt7 hown7 hoff7 F8 N8
          clear F14 N15
          have hil : i < out.length := (List.getElem?_eq_some_iff.mp hv7).1
          obtain ⟨ds, hds⟩ : ∃ ds, qs[i]? = some ds := ⟨_, List.getElem?_eq_getElem (by rw [hql]; exact hil)⟩
          obtain ⟨an, xs, cn, rfl, hma, hxs⟩ := hqp i v ds hv7 hds
          have hdA := hqA ds (List.mem_of_getElem? hds)
          have hms := main_step hqU hqA hqC hds
          have hbt := between _ hms.1 ds hdA hms.2.1 hms.2.2
          have hsh := allP_shape ds hdA
          have hxl : xs.length = ds.length := by rw [hxs.len_eq, List.length_map]
          have hsl : sv.length = (prevOf qs i).length + 1 := by rw [hsv.len_eq, prefs_len]
          have hpl3 := (join_pathS _ hms.1).2
          have F9 := fr_knowns [(Str.ofString "stack", Value.ref ST), (Str.ofString "ahead", Value.str (pathS (prevOf qs i)) ta), (Str.ofString "popped", Value.ref PL), (Str.ofString "script", Value.ref l)] F8 (known_cons g1 (known_cons g2 (known_cons g3 (known_cons g4 known_nil))))
          have N9 := news_sub (news' := (an, listOf (List.toArray xs) cn) :: (ST, listOf (List.toArray sv) sn) :: (ow7 ++ ((PL, listOf (List.toArray out) out.length) :: (s₁.heap.objs.size + 1, oH) :: (T, listOf (List.toArray ts) ct) :: (s₁.heap.objs.size + 1 + 1, o2) :: (s₁.heap.objs.size + 1 + 1 + 1, o1) :: own))) N8 (by tb_start)
          clear F8 N8
          dsimp only [List.lookup] at F9
          generalize hrr : ow7 ++ ((PL, listOf (List.toArray out) out.length) :: (s₁.heap.objs.size + 1, oH) :: (T, listOf (List.toArray ts) ct) :: (s₁.heap.objs.size + 1 + 1, o2) :: (s₁.heap.objs.size + 1 + 1 + 1, o1) :: own) = rest7 at N9
          (repeat' (first | ((fail_if_success (with_reducible first | refine Mine.z1 ?_ | refine Mine.z2 ?_ | refine Mine.z3 ?_ | refine Mine.z4 ?_ | refine Mine.z5 ?_ | refine Mine.z6 ?_ | refine Mine.z7 ?_ | refine Mine.z8 ?_ | refine Mine.z9 ?_ | refine Mine.z10 ?_ | refine Mine.z11 ?_ | refine Mine.z12 ?_ | refine Mine.z13 ?_ | refine Mine.z14 ?_ | refine Mine.z15 ?_ | refine Mine.z16 ?_)); (first | (with_reducible refine Mine.z18 ?_) | (fail_if_success (with_reducible refine Mine.z17 ?_))); (first | (k_unfold; (try dsimp only)) | walk1 | (dsimp only; walk1))) | fail "no step"))
          rename News _ _ _ _ => N10
          refine len_at (N10 _ (.head _)).1 (by first | grind | omega) ?_
          (try dsimp only)
          k_unmd
          (repeat' (first | ((fail_if_success (with_reducible first | refine Mine.z1 ?_ | refine Mine.z2 ?_ | refine Mine.z3 ?_ | refine Mine.z4 ?_ | refine Mine.z5 ?_ | refine Mine.z6 ?_ | refine Mine.z7 ?_ | refine Mine.z8 ?_ | refine Mine.z9 ?_ | refine Mine.z10 ?_ | refine Mine.z11 ?_ | refine Mine.z12 ?_ | refine Mine.z13 ?_ | refine Mine.z14 ?_ | refine Mine.z15 ?_ | refine Mine.z16 ?_)); (first | (with_reducible refine Mine.z18 ?_) | (fail_if_success (with_reducible refine Mine.z17 ?_))); (first | (k_unfold; (try dsimp only)) | walk1 | (dsimp only; walk1))) | fail "no step"))
          have hlast := last_get ds hdA
          obtain ⟨tn, hxn⟩ := hxs.at (j := ds.length - 1) (y := nm (ds.getLastD 0)) (by rw [List.getElem?_map, hlast]; rfl)
          have hnl := nm_slash _ (path_last ds hdA)
          rename News _ _ _ _ => N11
          refine back_at (i := ds.length - 1) (N11 _ (.head _)).1 (by decide) (by first | grind | omega) hxn (by first | grind | omega) ?_
          generalize hnm : nm (ds.getLastD 0) = name at hxn hnl
          have hfr : (2 * ((xs.length : Nat) : Int) - 2) = ((2 * (ds.length - 1) : Nat) : Int) := by first | grind | omega
          rw [hfr]
          (try dsimp only)
          k_unmd
          (repeat' (first | ((fail_if_success (with_reducible first | refine Mine.z1 ?_ | refine Mine.z2 ?_ | refine Mine.z3 ?_ | refine Mine.z4 ?_ | refine Mine.z5 ?_ | refine Mine.z6 ?_ | refine Mine.z7 ?_ | refine Mine.z8 ?_ | refine Mine.z9 ?_ | refine Mine.z10 ?_ | refine Mine.z11 ?_ | refine Mine.z12 ?_ | refine Mine.z13 ?_ | refine Mine.z14 ?_ | refine Mine.z15 ?_ | refine Mine.z16 ?_)); (first | (with_reducible refine Mine.z18 ?_) | (fail_if_success (with_reducible refine Mine.z17 ?_))); (first | (k_unfold; (try dsimp only)) | walk1 | (dsimp only; walk1))) | fail "no step"))
          refine For_G (by k_asm) ?_
          (repeat' (first | ((fail_if_success (with_reducible first | refine Mine.z1 ?_ | refine Mine.z2 ?_ | refine Mine.z3 ?_ | refine Mine.z4 ?_ | refine Mine.z5 ?_ | refine Mine.z6 ?_ | refine Mine.z7 ?_ | refine Mine.z8 ?_ | refine Mine.z9 ?_ | refine Mine.z10 ?_ | refine Mine.z11 ?_ | refine Mine.z12 ?_ | refine Mine.z13 ?_ | refine Mine.z14 ?_ | refine Mine.z15 ?_ | refine Mine.z16 ?_)); (first | (with_reducible refine Mine.z18 ?_) | (fail_if_success (with_reducible refine Mine.z17 ?_))); (first | (k_unfold; (try dsimp only)) | walk1 | (dsimp only; walk1))) | fail "no step"))
          rename Fr _ _ _ _ => F12
          rename News _ _ _ _ => N12
          rename_i LA hLA lLA
          have hrow := row_eq (x := name) (i := ((2 * (ds.length - 1) : Nat) : Int)) (j := 12 - ((2 * (ds.length - 1) : Nat) : Int) - ((name.length : Nat) : Int)) (f := 2 * (ds.length - 1)) (b := 12 - 2 * (ds.length - 1) - name.length) (Int.toNat_natCast _) (row_d hsh.2.1 hnl.2.1)
          rw [hrow] at F12
          have hcore : CoreOk name.cps.toList := by rw [← hnm]; exact nm_core _ (path_last ds hdA)
          have hcl : name.cps.toList.length = name.length := rfl
          obtain ⟨k8, hk8, hk8l⟩ := row_k ns.sum
          obtain ⟨items, ci, N13, hitems⟩ : ∃ items ci, News s₁.heap s₁.heap.objs.size hLA ((LA, listOf (List.toArray items) ci) :: (an, listOf (List.toArray xs) cn) :: (ST, listOf (List.toArray sv) sn) :: rest7) ∧ ∀ (i : Nat) v, items[i]? = some v → ∃ (N : Nat) (t : Tok), v = .int ((N : Nat) : Int) t ∧ N < 200 := by
            apply Exists.intro
            apply Exists.intro
            refine ⟨fun p hp => ?_, ?_⟩
            · rcases List.mem_cons.mp hp with rfl | hp
              · exact N12 _ (.head _)
              · exact N12 p (.tail _ (.tail _ hp))
            · intro i v hv
              rcases i with _ | _ | _ | _ | i
              · simp at hv; subst hv; exact ⟨k8, _, by rw [← hk8], Nat.lt_trans hk8l (by decide)⟩
              · simp at hv; subst hv; exact ⟨2 * (ds.length - 1), _, rfl, Nat.lt_trans (row_j hsh.2.1) (by decide)⟩
              · simp at hv; subst hv; exact ⟨12 - name.length, _, by congr 1; exact row_i _ hnl.2.1, Nat.lt_of_le_of_lt (Nat.sub_le ..) (by decide)⟩
              · simp at hv; subst hv; exact ⟨99, _, rfl, by decide⟩
              · simp at hv
          clear N12
          refine iterG_list (fun _ m' nw => nw = (LA, listOf (List.toArray items) ci) :: (an, listOf (List.toArray xs) cn) :: (ST, listOf (List.toArray sv) sn) :: rest7 ∧ (∃ tf, m' (Str.ofString "front") = some (.int ((2 * (ds.length - 1) : Nat) : Int) tf)) ∧ (∃ tb, m' (Str.ofString "behind") = some (.int (12 - ((2 * (ds.length - 1) : Nat) : Int) - ((name.length : Nat) : Int)) tb)) ∧ m' (Str.ofString "name") = some (.str name tn) ∧ (∃ tr, m' (Str.ofString "row") = some (.str (rowL (2 * (ds.length - 1)) name.cps.toList (12 - 2 * (ds.length - 1) - name.length)) tr)) ∧
            m' (Str.ofString "names") = some (.ref an) ∧ m' (Str.ofString "stack") = some (.ref ST) ∧ m' (Str.ofString "ahead") = some (.str (pathS (prevOf qs i)) ta) ∧ m' (Str.ofString "popped") = some (.ref PL) ∧ m' (Str.ofString "script") = some (.ref l)) rfl F12 N13 (.head _) ⟨rfl, ⟨_, by rfl⟩, ⟨_, by rfl⟩, by rfl, ⟨_, by rfl⟩, by rfl, by rfl, by rfl, by rfl, by rfl⟩ ?_ ?_
          · rintro i8 v8 m8 nw8 h8 tk8 ow8 I8 oI8 hv8 ⟨rfl, ⟨tf, q1⟩, ⟨tb, q2⟩, q3, ⟨tr, q4⟩, q5, q6, q7, q8, q9⟩ hI8 hLI8 hlt8 hown8 hoff8 F16 N16
            clear F12 N13
            obtain ⟨am, tam, rfl, ham⟩ := hitems i8 v8 hv8
            have F17 := fr_knowns [(Str.ofString "front", Value.int ((2 * (ds.length - 1) : Nat) : Int) tf), (Str.ofString "behind", Value.int (12 - ((2 * (ds.length - 1) : Nat) : Int) - ((name.length : Nat) : Int)) tb), (Str.ofString "name", Value.str name tn), (Str.ofString "row", Value.str (rowL (2 * (ds.length - 1)) name.cps.toList (12 - 2 * (ds.length - 1) - name.length)) tr), (Str.ofString "names", Value.ref an), (Str.ofString "stack", Value.ref ST), (Str.ofString "ahead", Value.str (pathS (prevOf qs i)) ta), (Str.ofString "popped", Value.ref PL), (Str.ofString "script", Value.ref l)] F16 (known_cons q1 (known_cons q2 (known_cons q3 (known_cons q4 (known_cons q5 (known_cons q6 (known_cons q7 (known_cons q8 (known_cons q9 known_nil)))))))))
            clear F16
            dsimp only [List.lookup] at F17
            generalize hrr8 : ow8 ++ ((LA, listOf (List.toArray items) ci) :: (an, listOf (List.toArray xs) cn) :: (ST, listOf (List.toArray sv) sn) :: rest7) = rest8 at N16
            (repeat' (first | ((fail_if_success (with_reducible first | refine Mine.z1 ?_ | refine Mine.z2 ?_ | refine Mine.z3 ?_ | refine Mine.z4 ?_ | refine Mine.z5 ?_ | refine Mine.z6 ?_ | refine Mine.z7 ?_ | refine Mine.z8 ?_ | refine Mine.z9 ?_ | refine Mine.z10 ?_ | refine Mine.z11 ?_ | refine Mine.z12 ?_ | refine Mine.z13 ?_ | refine Mine.z14 ?_ | refine Mine.z15 ?_ | refine Mine.z16 ?_)); (first | (with_reducible refine Mine.z18 ?_) | (fail_if_success (with_reducible refine Mine.z17 ?_))); (first | (k_unfold; (try dsimp only)) | walk1 | (dsimp only; walk1))) | fail "no step"))
            rename Fr _ _ _ _ => F18
            rename News _ _ _ _ => N18
            refine strip_c (n := am) (by k_asm) F18 (by k_asm) (by k_asm) rfl rfl (by first | ktr_room | decide) (by first | ktr_units | decide) N18 hcore (row_a hsh.2.1 hnl.2.1 hcl) rfl fun h9 tk9 t9 F19 N19 => ?_
            clear F18 N18
            (try dsimp only)
            k_unmd
            (repeat' (first | ((fail_if_success (with_reducible first | refine Mine.z1 ?_ | refine Mine.z2 ?_ | refine Mine.z3 ?_ | refine Mine.z4 ?_ | refine Mine.z5 ?_ | refine Mine.z6 ?_ | refine Mine.z7 ?_ | refine Mine.z8 ?_ | refine Mine.z9 ?_ | refine Mine.z10 ?_ | refine Mine.z11 ?_ | refine Mine.z12 ?_ | refine Mine.z13 ?_ | refine Mine.z14 ?_ | refine Mine.z15 ?_ | refine Mine.z16 ?_)); (first | (with_reducible refine Mine.z18 ?_) | (fail_if_success (with_reducible refine Mine.z17 ?_))); (first | (k_unfold; (try dsimp only)) | walk1 | (dsimp only; walk1))) | fail "no step"))
            rename Fr _ _ _ _ => F20
            rename News _ _ _ _ => N20
            refine left_c (f := 2 * (ds.length - 1)) (b := 12 - 2 * (ds.length - 1) - name.length) (n := am) (by k_asm) F20 (by k_asm) (by k_asm) rfl rfl (by first | ktr_room | decide) (by first | ktr_units | decide) N20 (Nat.lt_trans hnl.2.1 (by decide)) rfl (row_f hsh.2.1 hnl.2.1) rfl (row_j hsh.2.1) (row_g _ _) ham fun h10 tk10 t10 F21 N21 => ?_
            clear F20 N20
            (try dsimp only)
            k_unmd
            (repeat' (first | ((fail_if_success (with_reducible first | refine Mine.z1 ?_ | refine Mine.z2 ?_ | refine Mine.z3 ?_ | refine Mine.z4 ?_ | refine Mine.z5 ?_ | refine Mine.z6 ?_ | refine Mine.z7 ?_ | refine Mine.z8 ?_ | refine Mine.z9 ?_ | refine Mine.z10 ?_ | refine Mine.z11 ?_ | refine Mine.z12 ?_ | refine Mine.z13 ?_ | refine Mine.z14 ?_ | refine Mine.z15 ?_ | refine Mine.z16 ?_)); (first | (with_reducible refine Mine.z18 ?_) | (fail_if_success (with_reducible refine Mine.z17 ?_))); (first | (k_unfold; (try dsimp only)) | walk1 | (dsimp only; walk1))) | fail "no step"))
            · rename ((_ != _) = true) => hbad
              simp at hbad
            · rename Fr _ _ _ _ => F22
              rename News _ _ _ _ => N22
              refine turn_next F22 N22 ((LA, listOf (List.toArray items) ci) :: (an, listOf (List.toArray xs) cn) :: (ST, listOf (List.toArray sv) sn) :: rest7) (fun p hp => ?_) hoff8 ⟨rfl, ⟨_, by rfl⟩, ⟨_, by rfl⟩, by rfl, ⟨_, by rfl⟩, by rfl, by rfl, by rfl, by rfl, by rfl⟩
              rw [← hrr8]
              exact hp
          · rintro m8 nw8 h8 tk8 ⟨rfl, ⟨tf, q1⟩, ⟨tb, q2⟩, q3, ⟨tr, q4⟩, q5, q6, q7, q8, q9⟩ F16 N16
            clear F12 N13
            have F17 := fr_knowns [(Str.ofString "front", Value.int ((2 * (ds.length - 1) : Nat) : Int) tf), (Str.ofString "name", Value.str name tn), (Str.ofString "row", Value.str (rowL (2 * (ds.length - 1)) name.cps.toList (12 - 2 * (ds.length - 1) - name.length)) tr), (Str.ofString "names", Value.ref an), (Str.ofString "stack", Value.ref ST), (Str.ofString "ahead", Value.str (pathS (prevOf qs i)) ta), (Str.ofString "popped", Value.ref PL), (Str.ofString "script", Value.ref l)] F16 (known_cons q1 (known_cons q3 (known_cons q4 (known_cons q5 (known_cons q6 (known_cons q7 (known_cons q8 (known_cons q9 known_nil))))))))
            clear F16
            dsimp only [List.lookup] at F17
            rename_i za48 za47 za46 za45 za44 za43 za42 za41 za40 za39 za38 za37 za36 za35 za34 za33 za32 za31 za30 za29 za28 za27 za26 za25 za24 za23 za22 za21 za20 za19 za18 za17 za16 za15 za14 za13 za12 za11 za10 za9 za8 za7 za6 za5 za4 za3 za2 za1 za0
            clear of pm doc ho hg GL aw1 ow1 aw3 hcd la1 la2 ws la3 hLst hI hc1 hc2 hD h1 tk1 o3 d1 d2 d3 X0 hh1 l1a ws1 hh2 hI0 hC0 hL0 l1b hh3 l1c hh4 l1d h2 tk2 pss OK hin hHT hHo hIo hPo hCo hIT hPT hCT oTn za47 za46 za45 hHC hHP hHI h5 dH za44 za43 hownR κ hκ hgood hinj htl hRH hgR za42 za41 za40 hv hn za39 za38 hperm hO hnd g hn2 h9 tk9 hO2 za37 oPL ht2 h10 c' hpo hUo hU2 hyl2 hp2 hlt2 hpm ltSD za36 za35 za34 za33 za31 za30 za29 hA hB za28 hql hqp hqU hqm hqA hqC tz m7 g1 g2 g3 g4 hTI hlt7 hown7 hil hv7 hma F9 N9 za27 za26 hlast hxn za24 za23 za22 za21 za20 za19 za18 tk za17 za16 za15 za14 za13 za12 za10 za9 za8 za7 za6 za5 za3 za0 lLA hrow hk8 hk8l hitems q1 tb q2 q3 q4 q5 q6 q7 q8 q9
            revert w s₀ s₁ mg mb fa KX Tp aw2 ns l K0 o1 o2 qk ek H Ds L14 Dn ws2 hI1 T ts ct own za48 oH PL SD out X1 ST0 za32 qs i h7 tk7 ow7 I7 oI7 ST sv sn hsv ta hI7 hoff7 ds hds an xs cn hxs hdA hms hbt hsh hxl hsl hpl3 rest7 hrr tn name hnm hnl hfr za25 za11 za4 za2 za1 LA hLA hcore hcl k8 items ci m8 h8 tk8 tf tr N16 F17
            exact hCutA.out
        · rintro mE nwE hE tkE ⟨ST, sv, sn, rfl, hsv, g1, ⟨ta, g2⟩, g3, g4⟩ F8 N8
          clear F14 N15
          have F9 := fr_knowns [(Str.ofString "popped", Value.ref PL)] F8 (known_cons g3 known_nil)
          have N9 := news_sub (news' := (s₁.heap.objs.size + 1 + 1, o2) :: (s₁.heap.objs.size + 1 + 1 + 1, o1) :: (PL, listOf (List.toArray out) out.length) :: own) N8 (by tb_start)
          clear F8 N8
          dsimp only [List.lookup] at F9
          have hPP : s₁.heap.objs.size + 1 + 1 ≠ PL := oPL (_, o2) (.tail _ (.tail _ (.tail _ (.head _))))
          have hIP : s₁.heap.objs.size + 1 + 1 + 1 ≠ PL := oPL (_, o1) (.tail _ (.tail _ (.tail _ (.tail _ (.head _)))))
          clear g1 ta g2 g4 hsv
          rename_i zb14 zb13 zb12 zb11 zb10 zb9 zb8 zb7 zb6 zb5 zb4 zb3 zb2 zb1 zb0
          clear of ho GL aw1 ow1 aw3 hcd la1 la2 ws la3 hLst hI hc1 hc2 hD h1 tk1 o3 d3 X0 hh1 l1a ws1 hh2 hI0 hC0 hL0 l1b hh3 l1c hh4 l1d h2 tk2 ct pss OK hin hHT hHo hCo hIT hPT hCT oTn zb13 zb12 zb11 hHC hHP hHI h5 oH dH zb10 zb9 hownR κ hκ hgood hinj hRH hgR m7 h7 tk7 hv hn g1 g2 hperm hO hnd g hn2 h9 tk9 hO2 zb8 oPL h10 c' hUo hU2 hp2 hlt2 hpm ltSD zb7 zb6 zb5 zb4 zb2 zb1 zb0 hA hqm hqC tz ST sv sn g3
          revert w s₀ s₁ mg mb fa pm doc hg KX Tp aw2 ns l K0 o1 o2 d1 d2 qk ek H Ds L14 Dn ws2 hI1 T ts own hIo hPo zb14 htl PL ht2 SD out hpo hyl2 X1 ST0 zb3 hB tk qs hql hqp hqU hqA mE hE tkE F9 N9 hPP hIP
          exact hCutB.out
end Mine

namespace Mine
def law2 : Cut (law1.C) := by
  apply Cut.mk
  case h =>
    intro hCutA
    intro w s₀ s₁ mg mb fa KX Tp aw2 ns l K0 o1 o2 qk ek H Ds L14 Dn ws2 hI1 T ts ct own za48 oH PL SD out X1 ST0 za32 qs i h7 tk7 ow7 I7 oI7 ST sv sn hsv ta hI7 hoff7 ds hds an xs cn hxs hdA hms hbt hsh hxl hsl hpl3 rest7 hrr tn name hnm hnl hfr za25 za11 za4 za2 za1 LA hLA hcore hcl k8 items ci m8 h8 tk8 tf tr N16 F17
    w_top off
    (try dsimp only)
    k_unmd
    (repeat' (first | ((fail_if_success (with_reducible first | refine Mine.z1 ?_ | refine Mine.z2 ?_ | refine Mine.z3 ?_ | refine Mine.z4 ?_ | refine Mine.z5 ?_ | refine Mine.z6 ?_ | refine Mine.z7 ?_ | refine Mine.z8 ?_ | refine Mine.z9 ?_ | refine Mine.z10 ?_ | refine Mine.z11 ?_ | refine Mine.z12 ?_ | refine Mine.z13 ?_ | refine Mine.z14 ?_ | refine Mine.z15 ?_ | refine Mine.z16 ?_)); (first | (with_reducible refine Mine.z18 ?_) | (fail_if_success (with_reducible refine Mine.z17 ?_))); (first | (k_unfold; (try dsimp only)) | walk1 | (dsimp only; walk1))) | fail "no step"))
    rename Fr _ _ _ _ => F22
    rename News _ _ _ _ => N22
    have hf2 : Int.fdiv ((2 * (ds.length - 1) : Nat) : Int) 2 = ((ds.length - 1 : Nat) : Int) := by
      rw [Int.fdiv_eq_ediv_of_nonneg _ (by omega)]; omega
    refine upto_at (b := ds.length) F22 N22 (N22 (ST, listOf (List.toArray sv) sn) (.tail _ (.tail _ (.head _)))).1 (by omega) (by omega) (fun S2 h9 F23 N23 lt23 lt23L => ?_)
    clear F22 N22
    (try dsimp only)
    k_unmd
    (repeat' (first | ((fail_if_success (with_reducible first | refine Mine.z1 ?_ | refine Mine.z2 ?_ | refine Mine.z3 ?_ | refine Mine.z4 ?_ | refine Mine.z5 ?_ | refine Mine.z6 ?_ | refine Mine.z7 ?_ | refine Mine.z8 ?_ | refine Mine.z9 ?_ | refine Mine.z10 ?_ | refine Mine.z11 ?_ | refine Mine.z12 ?_ | refine Mine.z13 ?_ | refine Mine.z14 ?_ | refine Mine.z15 ?_ | refine Mine.z16 ?_)); (first | (with_reducible refine Mine.z18 ?_) | (fail_if_success (with_reducible refine Mine.z17 ?_))); (first | (k_unfold; (try dsimp only)) | walk1 | (dsimp only; walk1))) | fail "no step"))
    have hpd := path_drop ds hdA
    have hpl2 := path_len ds.dropLast hpd.1
    have hplD := path_len ds (.tail _ hdA)
    obtain ⟨tsx, hsx⟩ := hsv.at (j := ds.length - 1) (y := pathS ds.dropLast) (by rw [prefs_at hbt.2.1, hbt.1])
    rw [hf2]
    refine item_at (i := ds.length - 1) (N23 (ST, listOf (List.toArray sv) sn) (.tail _ (.tail _ (.tail _ (.head _))))).1 rfl hsx (by omega) ?_
    (try dsimp only)
    k_unmd
    (repeat' (first | ((fail_if_success (with_reducible first | refine Mine.z1 ?_ | refine Mine.z2 ?_ | refine Mine.z3 ?_ | refine Mine.z4 ?_ | refine Mine.z5 ?_ | refine Mine.z6 ?_ | refine Mine.z7 ?_ | refine Mine.z8 ?_ | refine Mine.z9 ?_ | refine Mine.z10 ?_ | refine Mine.z11 ?_ | refine Mine.z12 ?_ | refine Mine.z13 ?_ | refine Mine.z14 ?_ | refine Mine.z15 ?_ | refine Mine.z16 ?_)); (first | (with_reducible refine Mine.z18 ?_) | (fail_if_success (with_reducible refine Mine.z17 ?_))); (first | (k_unfold; (try dsimp only)) | walk1 | (dsimp only; walk1))) | fail "no step"))
    rename Fr _ _ _ _ => F24
    rename News _ _ _ _ => N24
    refine strip_c (n := 12) (by k_asm) F24 (by k_asm) (by k_asm) rfl rfl (by first | ktr_room | decide) (by first | ktr_units | decide) N24 hcore (row_a hsh.2.1 hnl.2.1 hcl) rfl fun h11 tk11 t11 F25 N25 => ?_
    clear F24 N24
    have hz0 : rowL (2 * (ds.length - 1) - 12) name.cps.toList (12 - 2 * (ds.length - 1) - name.length - (12 - 2 * (ds.length - 1))) = name := by
      rw [show 2 * (ds.length - 1) - 12 = 0 from row_b hsh.2.1, show 12 - 2 * (ds.length - 1) - name.length - (12 - 2 * (ds.length - 1)) = 0 from row_c _ _, row_bare]
    rw [hz0]
    (try dsimp only)
    k_unmd
    (repeat' (first | ((fail_if_success (with_reducible first | refine Mine.z1 ?_ | refine Mine.z2 ?_ | refine Mine.z3 ?_ | refine Mine.z4 ?_ | refine Mine.z5 ?_ | refine Mine.z6 ?_ | refine Mine.z7 ?_ | refine Mine.z8 ?_ | refine Mine.z9 ?_ | refine Mine.z10 ?_ | refine Mine.z11 ?_ | refine Mine.z12 ?_ | refine Mine.z13 ?_ | refine Mine.z14 ?_ | refine Mine.z15 ?_ | refine Mine.z16 ?_)); (first | (with_reducible refine Mine.z18 ?_) | (fail_if_success (with_reducible refine Mine.z17 ?_))); (first | (k_unfold; (try dsimp only)) | walk1 | (dsimp only; walk1))) | fail "no step"))
    rename Fr _ _ _ _ => F26
    rename News _ _ _ _ => N26
    refine join_c (by k_asm) F26 (by k_asm) (by k_asm) rfl rfl (by first | ktr_room | decide) (by first | ktr_units | decide) N26 hpl2.1 hpl2.2 (by omega) hnl.1 fun h12 tk12 t12 F27 N27 => ?_
    clear F26 N26
    have hjn : (if Txt.endswith (pathS ds.dropLast) (Str.ofString "/") = true then pathS ds.dropLast ++ name else pathS ds.dropLast ++ (Str.ofString "/" ++ name)) = pathS ds := by
      rw [← hnm]; exact join_path ds hdA
    rw [hjn]
    (try dsimp only)
    k_unmd
    (repeat' (first | ((fail_if_success (with_reducible first | refine Mine.z1 ?_ | refine Mine.z2 ?_ | refine Mine.z3 ?_ | refine Mine.z4 ?_ | refine Mine.z5 ?_ | refine Mine.z6 ?_ | refine Mine.z7 ?_ | refine Mine.z8 ?_ | refine Mine.z9 ?_ | refine Mine.z10 ?_ | refine Mine.z11 ?_ | refine Mine.z12 ?_ | refine Mine.z13 ?_ | refine Mine.z14 ?_ | refine Mine.z15 ?_ | refine Mine.z16 ?_)); (first | (with_reducible refine Mine.z18 ?_) | (fail_if_success (with_reducible refine Mine.z17 ?_))); (first | (k_unfold; (try dsimp only)) | walk1 | (dsimp only; walk1))) | fail "no step"))
    rename Fr _ _ _ _ => F28
    rename News _ _ _ _ => N28
    refine add_at (vs := sv.take ds.length) (ws := [.str (pathS ds) t12]) F28 N28 (N28 (S2, listOf (List.toArray (sv.take ds.length)) 0) (.tail _ (.head _))).1 (N28 _ (.head _)).1 (by simp; exact row_h hsh.2.1) fun S3 h13 F29 N29 lt29 => ?_
    clear F28 N28
    have hsv2 : StrsAre (sv.take ds.length ++ [.str (pathS ds) t12]) (prefs ds) := by
      rw [← prefs_next hbt.1 hbt.2.1 (by omega)]
      exact (hsv.take' _).append' (.cons _ _ .nil)
    generalize sv.take ds.length ++ [Value.str (pathS ds) t12] = sv2 at hsv2 N29
    have hsl2 : sv2.length = ds.length + 1 := by rw [hsv2.len_eq, prefs_len]
    obtain ⟨tp, hp2⟩ := hsv2.at (j := ds.length) (y := pathS ds) (by rw [prefs_at (Nat.le_refl _), List.take_length])
    obtain ⟨td, hp1⟩ := hsv2.at (j := ds.length - 1) (y := pathS ds.dropLast) (by rw [prefs_at (by omega), List.dropLast_eq_take])
    (try dsimp only)
    k_unmd
    (repeat' (first | ((fail_if_success (with_reducible first | refine Mine.z1 ?_ | refine Mine.z2 ?_ | refine Mine.z3 ?_ | refine Mine.z4 ?_ | refine Mine.z5 ?_ | refine Mine.z6 ?_ | refine Mine.z7 ?_ | refine Mine.z8 ?_ | refine Mine.z9 ?_ | refine Mine.z10 ?_ | refine Mine.z11 ?_ | refine Mine.z12 ?_ | refine Mine.z13 ?_ | refine Mine.z14 ?_ | refine Mine.z15 ?_ | refine Mine.z16 ?_)); (first | (with_reducible refine Mine.z18 ?_) | (fail_if_success (with_reducible refine Mine.z17 ?_))); (first | (k_unfold; (try dsimp only)) | walk1 | (dsimp only; walk1))) | fail "no step"))
    rename News _ _ _ _ => N30
    refine back_at (i := ds.length) (N30 (S3, listOf (List.toArray sv2) 0) (by k_mem)).1 (by decide) (by omega) hp2 (by omega) ?_
    clear F29 N29
    (try dsimp only)
    k_unmd
    (repeat' (first | ((fail_if_success (with_reducible first | refine Mine.z1 ?_ | refine Mine.z2 ?_ | refine Mine.z3 ?_ | refine Mine.z4 ?_ | refine Mine.z5 ?_ | refine Mine.z6 ?_ | refine Mine.z7 ?_ | refine Mine.z8 ?_ | refine Mine.z9 ?_ | refine Mine.z10 ?_ | refine Mine.z11 ?_ | refine Mine.z12 ?_ | refine Mine.z13 ?_ | refine Mine.z14 ?_ | refine Mine.z15 ?_ | refine Mine.z16 ?_)); (first | (with_reducible refine Mine.z18 ?_) | (fail_if_success (with_reducible refine Mine.z17 ?_))); (first | (k_unfold; (try dsimp only)) | walk1 | (dsimp only; walk1))) | fail "no step"))
    rename Fr _ _ _ _ => F31
    rename News _ _ _ _ => N31
    refine join_list (PySem.IsL.isList (N31 (an, listOf (List.toArray xs) cn) (by k_mem)).1) hxs (Nat.le_trans (join_sum ds (.tail _ hdA)) (by decide)) ?_
    (try dsimp only)
    k_unmd
    (repeat' (first | ((fail_if_success (with_reducible first | refine Mine.z1 ?_ | refine Mine.z2 ?_ | refine Mine.z3 ?_ | refine Mine.z4 ?_ | refine Mine.z5 ?_ | refine Mine.z6 ?_ | refine Mine.z7 ?_ | refine Mine.z8 ?_ | refine Mine.z9 ?_ | refine Mine.z10 ?_ | refine Mine.z11 ?_ | refine Mine.z12 ?_ | refine Mine.z13 ?_ | refine Mine.z14 ?_ | refine Mine.z15 ?_ | refine Mine.z16 ?_)); (first | (with_reducible refine Mine.z18 ?_) | (fail_if_success (with_reducible refine Mine.z17 ?_))); (first | (k_unfold; (try dsimp only)) | walk1 | (dsimp only; walk1))) | fail "no step"))
    refine add_path (.tail _ hdA) fun t14 k14 => ?_
    (try dsimp only)
    k_unmd
    (repeat' (first | ((fail_if_success (with_reducible first | refine Mine.z1 ?_ | refine Mine.z2 ?_ | refine Mine.z3 ?_ | refine Mine.z4 ?_ | refine Mine.z5 ?_ | refine Mine.z6 ?_ | refine Mine.z7 ?_ | refine Mine.z8 ?_ | refine Mine.z9 ?_ | refine Mine.z10 ?_ | refine Mine.z11 ?_ | refine Mine.z12 ?_ | refine Mine.z13 ?_ | refine Mine.z14 ?_ | refine Mine.z15 ?_ | refine Mine.z16 ?_)); (first | (with_reducible refine Mine.z18 ?_) | (fail_if_success (with_reducible refine Mine.z17 ?_))); (first | (k_unfold; (try dsimp only)) | walk1 | (dsimp only; walk1))) | fail "no step"))
    · rename ((_ != _) = true) => hbad
      simp at hbad
    rename Fr _ _ _ _ => F32
    rename News _ _ _ _ => N32
    rename_i zc8 zc7 zc6 zc5 zc4 zc3 zc2 zc1 zc0
    clear hsv hxs hsl hpl3 hnl za11 za4 za2 za1 hLA hcore hcl h8 tk8 h9 lt23 lt23L tsx hsx h11 tk11 t11 hz0 h12 tk12 hjn zc7 zc6 h13 hp2 zc5 zc4 tk zc2 zc1 t14 zc0
    revert w s₀ s₁ mg mb fa KX Tp aw2 ns l K0 o1 o2 qk ek H Ds L14 Dn ws2 hI1 T ts ct own za48 oH PL SD out X1 ST0 za32 qs i h7 tk7 ow7 I7 oI7 ST sv sn ta hI7 hoff7 ds hds an xs cn hdA hms hbt hsh hxl rest7 hrr tn name hnm hfr za25 LA k8 items ci m8 tf tr hf2 S2 hpd hpl2 hplD t12 zc8 S3 lt29 sv2 hsv2 hsl2 tp td hp1 zc3 F32 N32 k14
    exact hCutA.out
end Mine

namespace Mine
theorem law2b : law2.C := by
  intro w s₀ s₁ mg mb fa KX Tp aw2 ns l K0 o1 o2 qk ek H Ds L14 Dn ws2 hI1 T ts ct own za48 oH PL SD out X1 ST0 za32 qs i h7 tk7 ow7 I7 oI7 ST sv sn ta hI7 hoff7 ds hds an xs cn hdA hms hbt hsh hxl rest7 hrr tn name hnm hfr za25 LA k8 items ci m8 tf tr hf2 S2 hpd hpl2 hplD t12 zc8 S3 lt29 sv2 hsv2 hsl2 tp td hp1 zc3 F32 N32 k14
  w_top off
  refine dirname_c (by k_asm) F32 (by k_asm) (by k_asm) rfl rfl (by first | ktr_room | decide) (by first | ktr_units | decide) N32 hplD.2 fun h14 tk14 t15 F33 N33 => ?_
  rw [dir_path ds hdA]
  clear F32 N32
  (try dsimp only)
  k_unmd
  (repeat' (first | ((fail_if_success (with_reducible first | refine Mine.z1 ?_ | refine Mine.z2 ?_ | refine Mine.z3 ?_ | refine Mine.z4 ?_ | refine Mine.z5 ?_ | refine Mine.z6 ?_ | refine Mine.z7 ?_ | refine Mine.z8 ?_ | refine Mine.z9 ?_ | refine Mine.z10 ?_ | refine Mine.z11 ?_ | refine Mine.z12 ?_ | refine Mine.z13 ?_ | refine Mine.z14 ?_ | refine Mine.z15 ?_ | refine Mine.z16 ?_)); (first | (with_reducible refine Mine.z18 ?_) | (fail_if_success (with_reducible refine Mine.z17 ?_))); (first | (k_unfold; (try dsimp only)) | walk1 | (dsimp only; walk1))) | fail "no step"))
  rename Fr _ _ _ _ => F34
  rename News _ _ _ _ => N34
  refine basename_c (by k_asm) F34 (by k_asm) (by k_asm) rfl rfl (by first | ktr_room | decide) (by first | ktr_units | decide) N34 hplD.2 fun h15 tk15 t16 F35 N35 => ?_
  rw [base_path ds hdA, hnm]
  clear F34 N34
  (try dsimp only)
  k_unmd
  (repeat' (first | ((fail_if_success (with_reducible first | refine Mine.z1 ?_ | refine Mine.z2 ?_ | refine Mine.z3 ?_ | refine Mine.z4 ?_ | refine Mine.z5 ?_ | refine Mine.z6 ?_ | refine Mine.z7 ?_ | refine Mine.z8 ?_ | refine Mine.z9 ?_ | refine Mine.z10 ?_ | refine Mine.z11 ?_ | refine Mine.z12 ?_ | refine Mine.z13 ?_ | refine Mine.z14 ?_ | refine Mine.z15 ?_ | refine Mine.z16 ?_)); (first | (with_reducible refine Mine.z18 ?_) | (fail_if_success (with_reducible refine Mine.z17 ?_))); (first | (k_unfold; (try dsimp only)) | walk1 | (dsimp only; walk1))) | fail "no step"))
  rename News _ _ _ _ => N36
  refine back_at (i := ds.length - 1) (N36 (S3, listOf (List.toArray sv2) 0) (by k_mem)).1 (by decide) (by omega) hp1 (by omega) ?_
  (try dsimp only)
  k_unmd
  (repeat' (first | ((fail_if_success (with_reducible first | refine Mine.z1 ?_ | refine Mine.z2 ?_ | refine Mine.z3 ?_ | refine Mine.z4 ?_ | refine Mine.z5 ?_ | refine Mine.z6 ?_ | refine Mine.z7 ?_ | refine Mine.z8 ?_ | refine Mine.z9 ?_ | refine Mine.z10 ?_ | refine Mine.z11 ?_ | refine Mine.z12 ?_ | refine Mine.z13 ?_ | refine Mine.z14 ?_ | refine Mine.z15 ?_ | refine Mine.z16 ?_)); (first | (with_reducible refine Mine.z18 ?_) | (fail_if_success (with_reducible refine Mine.z17 ?_))); (first | (k_unfold; (try dsimp only)) | walk1 | (dsimp only; walk1))) | fail "no step"))
  rename News _ _ _ _ => N37
  refine ne_strs (vs := [.str (pathS ds.dropLast) t15, .str name t16]) (ws := [.str (pathS ds.dropLast) td, .str name tn]) (S := [pathS ds.dropLast, name]) (N37 _ (.tail _ (.head _))).1 (N37 _ (.head _)).1 (.cons _ _ (.cons _ _ .nil)) (.cons _ _ (.cons _ _ .nil)) (by first | ktr_units | decide) ?_
  (try dsimp only)
  k_unmd
  (repeat' (first | ((fail_if_success (with_reducible first | refine Mine.z1 ?_ | refine Mine.z2 ?_ | refine Mine.z3 ?_ | refine Mine.z4 ?_ | refine Mine.z5 ?_ | refine Mine.z6 ?_ | refine Mine.z7 ?_ | refine Mine.z8 ?_ | refine Mine.z9 ?_ | refine Mine.z10 ?_ | refine Mine.z11 ?_ | refine Mine.z12 ?_ | refine Mine.z13 ?_ | refine Mine.z14 ?_ | refine Mine.z15 ?_ | refine Mine.z16 ?_)); (first | (with_reducible refine Mine.z18 ?_) | (fail_if_success (with_reducible refine Mine.z17 ?_))); (first | (k_unfold; (try dsimp only)) | walk1 | (dsimp only; walk1))) | fail "no step"))
  have hlc := (lcp_comm_all _ hms.1 ds (.tail _ hdA)).2.1
  have hpa := path_len _ hms.1
  have hspA := split_path _ hms.1
  have hspB := split_path ds (.tail _ hdA)
  have hspL := split_path _ hlc
  have hplL := path_len _ hlc
  rename Fr _ _ _ _ => F37
  refine LCt.ListComp_T F37 (by with_unfolding_all rfl) (by decide) (by rfl) (by decide) (by rfl) ?_
  (repeat' (first | ((fail_if_success (with_reducible first | refine Mine.z1 ?_ | refine Mine.z2 ?_ | refine Mine.z3 ?_ | refine Mine.z4 ?_ | refine Mine.z5 ?_ | refine Mine.z6 ?_ | refine Mine.z7 ?_ | refine Mine.z8 ?_ | refine Mine.z9 ?_ | refine Mine.z10 ?_ | refine Mine.z11 ?_ | refine Mine.z12 ?_ | refine Mine.z13 ?_ | refine Mine.z14 ?_ | refine Mine.z15 ?_ | refine Mine.z16 ?_)); (first | (with_reducible refine Mine.z18 ?_) | (fail_if_success (with_reducible refine Mine.z17 ?_))); (first | (k_unfold; (try dsimp only)) | walk1 | (dsimp only; walk1))) | fail "no step"))
  rename Fr _ _ _ _ => F38
  rename News _ _ _ _ => N38
  refine common_c (by k_asm) F38 (by k_asm) (by k_asm) rfl rfl (by first | ktr_room | decide) (by first | ktr_units | decide) hpa.2 hplD.2 hspA.2.1 hspB.2.1 hspA.1 hspB.1 hms.1 (.tail _ hdA) hspA.2.2 hspB.2.2 N38 (.head _) fun h16 tk16 t17 F39 N39 => ?_
  clear F38 N38
  (try dsimp only)
  k_unmd
  (repeat' (first | ((fail_if_success (with_reducible first | refine Mine.z1 ?_ | refine Mine.z2 ?_ | refine Mine.z3 ?_ | refine Mine.z4 ?_ | refine Mine.z5 ?_ | refine Mine.z6 ?_ | refine Mine.z7 ?_ | refine Mine.z8 ?_ | refine Mine.z9 ?_ | refine Mine.z10 ?_ | refine Mine.z11 ?_ | refine Mine.z12 ?_ | refine Mine.z13 ?_ | refine Mine.z14 ?_ | refine Mine.z15 ?_ | refine Mine.z16 ?_)); (first | (with_reducible refine Mine.z18 ?_) | (fail_if_success (with_reducible refine Mine.z17 ?_))); (first | (k_unfold; (try dsimp only)) | walk1 | (dsimp only; walk1))) | fail "no step"))
  rename_i pl hh17 k17 hpl apl hle _ F40 N40
  have hpl0 : (strValues pl).toArray.size = (Txt.split (pathS (lcp (prevOf qs i) ds)) (Str.ofString "/")).length := by rw [← hpl]; simp [strValues]
  rw [hpl] at apl hle
  have N41 := news_sub (news' := (h16.objs.size, listOf (strValues pl).toArray 0) :: (S3, listOf (List.toArray sv2) 0) :: rest7) N40 (by tb_start)
  clear N40
  refine LCt.CompSrcT.ledger (its := (strValues pl).toArray) (k := 0) rfl F40 N41 (.head _) (by rw [hpl0, sizeLine_eq]; have := hspL.2.1; omega) fun g2 => ?_
  refine restT_of (Txt.split (pathS (lcp (prevOf qs i) ds)) (Str.ofString "/")).length (fun i8 ys nw => ys.length = (((Txt.split (pathS (lcp (prevOf qs i) ds)) (Str.ofString "/")).take i8).filter fullC).length ∧ nw = (h16.objs.size, listOf (strValues pl).toArray 0) :: (S3, listOf (List.toArray sv2) 0) :: rest7) ?_ ?_ _ 0 [] _ (by rw [hpl0]; omega) ⟨rfl, rfl⟩
  · rintro i9 ys nw v I9 oI9 C9 oC9 D9 m9 h19 tk19 E9 hi9 ⟨hys, rfl⟩ hv9 hoC9 hm9 F42 N42 off9 ne9
    obtain ⟨c9, t9, rfl, hc9⟩ := apl.item i9 v (by simpa using hv9)
    have hst := full_step hc9 hys
    (repeat' (first | ((fail_if_success (with_reducible first | refine Mine.z1 ?_ | refine Mine.z2 ?_ | refine Mine.z3 ?_ | refine Mine.z4 ?_ | refine Mine.z5 ?_ | refine Mine.z6 ?_ | refine Mine.z7 ?_ | refine Mine.z8 ?_ | refine Mine.z9 ?_ | refine Mine.z10 ?_ | refine Mine.z11 ?_ | refine Mine.z12 ?_ | refine Mine.z13 ?_ | refine Mine.z14 ?_ | refine Mine.z15 ?_ | refine Mine.z16 ?_)); (first | (with_reducible refine Mine.z18 ?_) | (fail_if_success (with_reducible refine Mine.z17 ?_))); (first | (k_unfold; (try dsimp only)) | walk1 | (dsimp only; walk1))) | fail "no step"))
    · rename ((_ != _) = true) => hq
      rw [if_pos (show fullC c9 = true from hq)] at hst
      exact LCg.CompEnd.intro F42 N42 _ (fun _ h => h) off9 (.inr ⟨_, .head _, rfl, _, rfl⟩) ⟨by rw [List.length_append]; exact hst, rfl⟩
    · rename ((_ != _) = false) => hq
      rw [if_neg (show ¬ fullC c9 = true from fun h => Bool.false_ne_true (hq.symm.trans h))] at hst
      exact LCg.CompEnd.intro F42 N42 _ (fun _ h => h) off9 (.inr ⟨_, .head _, rfl, _, rfl⟩) ⟨hst, rfl⟩
  · rintro yl _ ⟨hys, rfl⟩ Y9 h19 tk19 F43 N43 oY9
    clear F40 N41
    rw [List.take_length, split_full _ hlc] at hys
    have hbl := hbt.2.2.1
    have N44 := news_sub (news' := (Y9, listOf (List.toArray yl) yl.length) :: (S3, listOf (List.toArray sv2) 0) :: rest7) N43 (by tb_start)
    clear N43 oY9
    (try dsimp only)
    k_unmd
    (repeat' (first | ((fail_if_success (with_reducible first | refine Mine.z1 ?_ | refine Mine.z2 ?_ | refine Mine.z3 ?_ | refine Mine.z4 ?_ | refine Mine.z5 ?_ | refine Mine.z6 ?_ | refine Mine.z7 ?_ | refine Mine.z8 ?_ | refine Mine.z9 ?_ | refine Mine.z10 ?_ | refine Mine.z11 ?_ | refine Mine.z12 ?_ | refine Mine.z13 ?_ | refine Mine.z14 ?_ | refine Mine.z15 ?_ | refine Mine.z16 ?_)); (first | (with_reducible refine Mine.z18 ?_) | (fail_if_success (with_reducible refine Mine.z17 ?_))); (first | (k_unfold; (try dsimp only)) | walk1 | (dsimp only; walk1))) | fail "no step"))
    refine len_at (N44 _ (.head _)).1 (by omega) ?_
    (try dsimp only)
    k_unmd
    (repeat' (first | ((fail_if_success (with_reducible first | refine Mine.z1 ?_ | refine Mine.z2 ?_ | refine Mine.z3 ?_ | refine Mine.z4 ?_ | refine Mine.z5 ?_ | refine Mine.z6 ?_ | refine Mine.z7 ?_ | refine Mine.z8 ?_ | refine Mine.z9 ?_ | refine Mine.z10 ?_ | refine Mine.z11 ?_ | refine Mine.z12 ?_ | refine Mine.z13 ?_ | refine Mine.z14 ?_ | refine Mine.z15 ?_ | refine Mine.z16 ?_)); (first | (with_reducible refine Mine.z18 ?_) | (fail_if_success (with_reducible refine Mine.z17 ?_))); (first | (k_unfold; (try dsimp only)) | walk1 | (dsimp only; walk1))) | fail "no step"))
    refine back_at (i := ds.length - 1) (N44 (S3, listOf (List.toArray sv2) 0) (by k_mem)).1 (by decide) (by omega) hp1 (by omega) ?_
    (try dsimp only)
    k_unmd
    (repeat' (first | ((fail_if_success (with_reducible first | refine Mine.z1 ?_ | refine Mine.z2 ?_ | refine Mine.z3 ?_ | refine Mine.z4 ?_ | refine Mine.z5 ?_ | refine Mine.z6 ?_ | refine Mine.z7 ?_ | refine Mine.z8 ?_ | refine Mine.z9 ?_ | refine Mine.z10 ?_ | refine Mine.z11 ?_ | refine Mine.z12 ?_ | refine Mine.z13 ?_ | refine Mine.z14 ?_ | refine Mine.z15 ?_ | refine Mine.z16 ?_)); (first | (with_reducible refine Mine.z18 ?_) | (fail_if_success (with_reducible refine Mine.z17 ?_))); (first | (k_unfold; (try dsimp only)) | walk1 | (dsimp only; walk1))) | fail "no step"))
    rename Fr _ _ _ _ => F45
    rename News _ _ _ _ => N45
    have hspD := split_path _ hpd.1
    refine common_c (by k_asm) F45 (by k_asm) (by k_asm) rfl rfl (by first | ktr_room | decide) (by first | ktr_units | decide) hplD.2 hpl2.2 hspB.2.1 hspD.2.1 hspB.1 hspD.1 (.tail _ hdA) hpd.1 hspB.2.2 hspD.2.2 N45 (.head _) fun h20 tk20 t20 F46 N46 => ?_
    rw [hbt.2.2.2]
    clear F45 N45
    (try dsimp only)
    k_unmd
    (repeat' (first | ((fail_if_success (with_reducible first | refine Mine.z1 ?_ | refine Mine.z2 ?_ | refine Mine.z3 ?_ | refine Mine.z4 ?_ | refine Mine.z5 ?_ | refine Mine.z6 ?_ | refine Mine.z7 ?_ | refine Mine.z8 ?_ | refine Mine.z9 ?_ | refine Mine.z10 ?_ | refine Mine.z11 ?_ | refine Mine.z12 ?_ | refine Mine.z13 ?_ | refine Mine.z14 ?_ | refine Mine.z15 ?_ | refine Mine.z16 ?_)); (first | (with_reducible refine Mine.z18 ?_) | (fail_if_success (with_reducible refine Mine.z17 ?_))); (first | (k_unfold; (try dsimp only)) | walk1 | (dsimp only; walk1))) | fail "no step"))
    rename News _ _ _ _ => N47
    refine back_at (i := ds.length - 1) (N47 (S3, listOf (List.toArray sv2) 0) (by k_mem)).1 (by decide) (by omega) hp1 (by omega) ?_
    (try dsimp only)
    k_unmd
    (repeat' (first | ((fail_if_success (with_reducible first | refine Mine.z1 ?_ | refine Mine.z2 ?_ | refine Mine.z3 ?_ | refine Mine.z4 ?_ | refine Mine.z5 ?_ | refine Mine.z6 ?_ | refine Mine.z7 ?_ | refine Mine.z8 ?_ | refine Mine.z9 ?_ | refine Mine.z10 ?_ | refine Mine.z11 ?_ | refine Mine.z12 ?_ | refine Mine.z13 ?_ | refine Mine.z14 ?_ | refine Mine.z15 ?_ | refine Mine.z16 ?_)); (first | (with_reducible refine Mine.z18 ?_) | (fail_if_success (with_reducible refine Mine.z17 ?_))); (first | (k_unfold; (try dsimp only)) | walk1 | (dsimp only; walk1))) | fail "no step"))
    · rename ((_ != _) = true) => hbad
      simp at hbad
    rename Fr _ _ _ _ => F48
    rename News _ _ _ _ => N48
    have hpn := prev_next hds
    have hr7 : ∀ p ∈ ow7 ++ ((PL, listOf (List.toArray out) out.length) :: (s₁.heap.objs.size + 1, oH) :: (T, listOf (List.toArray ts) ct) :: (s₁.heap.objs.size + 1 + 1, o2) :: (s₁.heap.objs.size + 1 + 1 + 1, o1) :: own), p ∈ rest7 := fun p hp => by rw [← hrr]; exact hp
    have hS3I : S3 ≠ I7 := Nat.ne_of_gt (lt29 (I7, oI7) (by
      have := hr7 _ (List.mem_append_left _ hI7)
      simp only [List.mem_cons]; simp [this]))
    refine turn_next F48 N48 ((S3, listOf (List.toArray sv2) 0) :: (PL, listOf (List.toArray out) out.length) :: (s₁.heap.objs.size + 1, oH) :: (T, listOf (List.toArray ts) ct) :: (s₁.heap.objs.size + 1 + 1, o2) :: (s₁.heap.objs.size + 1 + 1 + 1, o1) :: own) (sub_app (fun p hp => ?_) (sub_cons (by k_mem) fun p hp => ?_)) (fun p hp => ?_) ⟨S3, sv2, 0, rfl, by rw [hpn]; exact hsv2, by rfl, ⟨_, by rw [hpn]; rfl⟩, by rfl, by rfl⟩
    · have h := hr7 p (List.mem_append_left _ hp)
      repeat (first | exact h | refine List.Mem.tail _ ?_)
    · have h := hr7 p (List.mem_append_right _ hp)
      repeat (first | exact h | refine List.Mem.tail _ ?_)
    · rcases List.mem_cons.mp hp with rfl | hp
      · exact hS3I
      · exact hoff7 p (.tail _ hp)
end Mine

namespace Mine
def law3 : Cut2 (law1.D) := by
  apply Cut2.mk
  case h =>
    intro hCutA hCutB
    intro w s₀ s₁ mg mb fa pm doc hg KX Tp aw2 ns l K0 o1 o2 d1 d2 qk ek H Ds L14 Dn ws2 hI1 T ts own hIo hPo zb14 htl PL ht2 SD out hpo hyl2 X1 ST0 zb3 hB tk qs hql hqp hqU hqA mE hE tkE F9 N9 hPP hIP
    w_top off
    (try dsimp only)
    k_unmd
    (repeat' (first | ((fail_if_success (with_reducible first | refine Mine.z1 ?_ | refine Mine.z2 ?_ | refine Mine.z3 ?_ | refine Mine.z4 ?_ | refine Mine.z5 ?_ | refine Mine.z6 ?_ | refine Mine.z7 ?_ | refine Mine.z8 ?_ | refine Mine.z9 ?_ | refine Mine.z10 ?_ | refine Mine.z11 ?_ | refine Mine.z12 ?_ | refine Mine.z13 ?_ | refine Mine.z14 ?_ | refine Mine.z15 ?_ | refine Mine.z16 ?_)); (first | (with_reducible refine Mine.z18 ?_) | (fail_if_success (with_reducible refine Mine.z17 ?_))); (first | (k_unfold; (try dsimp only)) | walk1 | (dsimp only; walk1))) | fail "no step"))
    refine For_G F9 ?_
    (repeat' (first | ((fail_if_success (with_reducible first | refine Mine.z1 ?_ | refine Mine.z2 ?_ | refine Mine.z3 ?_ | refine Mine.z4 ?_ | refine Mine.z5 ?_ | refine Mine.z6 ?_ | refine Mine.z7 ?_ | refine Mine.z8 ?_ | refine Mine.z9 ?_ | refine Mine.z10 ?_ | refine Mine.z11 ?_ | refine Mine.z12 ?_ | refine Mine.z13 ?_ | refine Mine.z14 ?_ | refine Mine.z15 ?_ | refine Mine.z16 ?_)); (first | (with_reducible refine Mine.z18 ?_) | (fail_if_success (with_reducible refine Mine.z17 ?_))); (first | (k_unfold; (try dsimp only)) | walk1 | (dsimp only; walk1))) | fail "no step"))
    rename_i SL hSL F10 N10 lSL
    have hol : out.length ≤ 39 := by rw [hpo.length_eq]; exact htl
    obtain ⟨tz, N11⟩ : ∃ tz, News s₁.heap s₁.heap.objs.size hSL ((SL, listOf [Value.str (Str.ofString "/") tz].toArray 0) :: (s₁.heap.objs.size + 1 + 1, o2) :: (s₁.heap.objs.size + 1 + 1 + 1, o1) :: (PL, listOf (List.toArray out) out.length) :: own) := ⟨_, N10⟩
    clear N10 lSL
    refine LCg.ListComp_U F10 (by with_unfolding_all rfl) (by decide) (by rfl) (by decide) (by rfl) ?_
    (repeat' (first | ((fail_if_success (with_reducible first | refine Mine.z1 ?_ | refine Mine.z2 ?_ | refine Mine.z3 ?_ | refine Mine.z4 ?_ | refine Mine.z5 ?_ | refine Mine.z6 ?_ | refine Mine.z7 ?_ | refine Mine.z8 ?_ | refine Mine.z9 ?_ | refine Mine.z10 ?_ | refine Mine.z11 ?_ | refine Mine.z12 ?_ | refine Mine.z13 ?_ | refine Mine.z14 ?_ | refine Mine.z15 ?_ | refine Mine.z16 ?_)); (first | (with_reducible refine Mine.z18 ?_) | (fail_if_success (with_reducible refine Mine.z17 ?_))); (first | (k_unfold; (try dsimp only)) | walk1 | (dsimp only; walk1))) | fail "no step"))
    refine LCg.CompSrc.ledger (its := List.toArray out) rfl F10 N11 (.tail _ (.tail _ (.tail _ (.head _)))) (by rw [sizeLine_eq]; show (List.toArray out).size ≤ _; rw [List.size_toArray]; omega) fun g10 => ?_
    refine rest_of out.length (fun i ys nw => StrsAre ys ((qs.take i).map pathS) ∧ nw = (SL, listOf [Value.str (Str.ofString "/") tz].toArray 0) :: (s₁.heap.objs.size + 1 + 1, o2) :: (s₁.heap.objs.size + 1 + 1 + 1, o1) :: (PL, listOf (List.toArray out) out.length) :: own) ?_ ?_ _ 0 [] _ (by rw [List.size_toArray]; omega) ⟨.nil, rfl⟩
    · rintro i ys nw v I2 oI2 C oC D m2 h12 tk12 E2 hi2 ⟨hys, rfl⟩ hv2 hoC hm2 F12 N12 off12 ne12
      obtain ⟨ds, hds⟩ : ∃ ds, qs[i]? = some ds := ⟨_, List.getElem?_eq_getElem (by rw [hql]; exact hi2)⟩
      obtain ⟨an, xs, cn, rfl, hma, hxs⟩ := hqp i v ds (by simpa using hv2) hds
      have hdA := hqA ds (List.mem_of_getElem? hds)
      (repeat' (first | ((fail_if_success (with_reducible first | refine Mine.z1 ?_ | refine Mine.z2 ?_ | refine Mine.z3 ?_ | refine Mine.z4 ?_ | refine Mine.z5 ?_ | refine Mine.z6 ?_ | refine Mine.z7 ?_ | refine Mine.z8 ?_ | refine Mine.z9 ?_ | refine Mine.z10 ?_ | refine Mine.z11 ?_ | refine Mine.z12 ?_ | refine Mine.z13 ?_ | refine Mine.z14 ?_ | refine Mine.z15 ?_ | refine Mine.z16 ?_)); (first | (with_reducible refine Mine.z18 ?_) | (fail_if_success (with_reducible refine Mine.z17 ?_))); (first | (k_unfold; (try dsimp only)) | walk1 | (dsimp only; walk1))) | fail "no step"))
      refine join_list (PySem.IsL.isList (N12 (an, listOf (List.toArray xs) cn) (by simp only [List.mem_cons]; simp [hma])).1) hxs (Nat.le_trans (join_sum ds (.tail _ hdA)) (by decide)) ?_
      (try dsimp only)
      k_unmd
      (repeat' (first | ((fail_if_success (with_reducible first | refine Mine.z1 ?_ | refine Mine.z2 ?_ | refine Mine.z3 ?_ | refine Mine.z4 ?_ | refine Mine.z5 ?_ | refine Mine.z6 ?_ | refine Mine.z7 ?_ | refine Mine.z8 ?_ | refine Mine.z9 ?_ | refine Mine.z10 ?_ | refine Mine.z11 ?_ | refine Mine.z12 ?_ | refine Mine.z13 ?_ | refine Mine.z14 ?_ | refine Mine.z15 ?_ | refine Mine.z16 ?_)); (first | (with_reducible refine Mine.z18 ?_) | (fail_if_success (with_reducible refine Mine.z17 ?_))); (first | (k_unfold; (try dsimp only)) | walk1 | (dsimp only; walk1))) | fail "no step"))
      refine add_path (.tail _ hdA) fun t14 k14 => ?_
      (try dsimp only [qk])
      refine LCg.CompEnd.intro F12 N12 _ (fun _ h => h) off12 (.inr ⟨_, .tail _ (.tail _ (.tail _ (.head _))), rfl, _, rfl⟩) ⟨?_, rfl⟩
      rw [List.take_add_one, hds, List.map_append]
      exact hys.append' (.cons _ _ .nil)
    · rintro yl _ ⟨hys, rfl⟩ Y h12 tk12 F12 N12 oY
      clear F10 N11
      rw [← hql, List.take_length] at hys
      have hyl : yl.length = out.length := by rw [hys.len_eq, List.length_map, hql]
      (try dsimp only)
      k_unmd
      (repeat' (first | ((fail_if_success (with_reducible first | refine Mine.z1 ?_ | refine Mine.z2 ?_ | refine Mine.z3 ?_ | refine Mine.z4 ?_ | refine Mine.z5 ?_ | refine Mine.z6 ?_ | refine Mine.z7 ?_ | refine Mine.z8 ?_ | refine Mine.z9 ?_ | refine Mine.z10 ?_ | refine Mine.z11 ?_ | refine Mine.z12 ?_ | refine Mine.z13 ?_ | refine Mine.z14 ?_ | refine Mine.z15 ?_ | refine Mine.z16 ?_)); (first | (with_reducible refine Mine.z18 ?_) | (fail_if_success (with_reducible refine Mine.z17 ?_))); (first | (k_unfold; (try dsimp only)) | walk1 | (dsimp only; walk1))) | fail "no step"))
      rename StrsAre yl _ => hys
      rename_i hSP F13 N13
      have N14 : News s₁.heap s₁.heap.objs.size hSP ((h12.objs.size, listOf (List.toArray ([Value.str (Str.ofString "/") tz] ++ yl)) 0) :: (s₁.heap.objs.size + 1 + 1, o2) :: (s₁.heap.objs.size + 1 + 1 + 1, o1) :: (PL, listOf (List.toArray out) out.length) :: own) := fun p hp => by
        rcases List.mem_cons.mp hp with rfl | hp
        · exact N13 _ (.head _)
        · exact N13 p (.tail _ (.tail _ (.tail _ hp)))
      have hsp : StrsAre ([Value.str (Str.ofString "/") tz] ++ yl) (([] :: qs).map pathS) := by
        rw [List.map_cons, path_nil]
        exact .cons _ _ hys
      generalize hsvE : [Value.str (Str.ofString "/") tz] ++ yl = ps at hsp N14
      have hpsl : ps.length = out.length + 1 := by rw [← hsvE]; simp [hyl]
      have hIPc : s₁.heap.objs.size + 1 + 1 + 1 ≠ s₁.heap.objs.size + 1 + 1 := Nat.ne_of_gt (Nat.lt_succ_self _)
      have hSPP : h12.objs.size ≠ s₁.heap.objs.size + 1 + 1 := Nat.ne_of_gt (Heap.lt_size (N12 (_, o2) (.tail _ (.tail _ (.head _)))).1)
      have hSPI : h12.objs.size ≠ s₁.heap.objs.size + 1 + 1 + 1 := Nat.ne_of_gt (Heap.lt_size (N12 (_, o1) (.tail _ (.tail _ (.tail _ (.head _))))).1)
      clear F12 N12 N13
      generalize h12.objs.size = SP at N14 hSPP hSPI ⊢
      refine iterG_list (fun i m' nw => ∃ oP cP oI cI, nw = (s₁.heap.objs.size + 1 + 1, oP) :: (s₁.heap.objs.size + 1 + 1 + 1, oI) :: (SP, listOf (List.toArray ps) 0) :: (PL, listOf (List.toArray out) out.length) :: own ∧ oP.data = .cell cP ∧ oI.data = .cell cI ∧ m' (Str.ofString "popped") = some (.ref PL)) rfl F13
        (news_sub (news' := (s₁.heap.objs.size + 1 + 1, o2) :: (s₁.heap.objs.size + 1 + 1 + 1, o1) :: (SP, listOf (List.toArray ps) 0) :: (PL, listOf (List.toArray out) out.length) :: own) N14 (by tb_start)) (.tail _ (.tail _ (.head _))) ⟨o2, _, o1, _, rfl, d2, d1, by rfl⟩ ?_ ?_
      · rintro i v m7 nw7 h7 tk7 ow7 I7 oI7 hv7 ⟨oP, cP, oI, cI, rfl, hoP, hoI, g1⟩ hI7 hSI hlt7 hown7 hoff7 F8 N8
        clear F13 N14
        obtain ⟨pl, hplm, tp, rfl⟩ : ∃ pl, pl ∈ [] :: qs ∧ ∃ t, v = .str (pathS pl) t := by
          obtain ⟨y, t, rfl, hy⟩ := hsp.item i v hv7
          obtain ⟨pl, hpl, rfl⟩ := List.mem_map.mp (List.mem_of_getElem? hy)
          exact ⟨pl, hpl, t, rfl⟩
        have F9' := fr_knowns [(Str.ofString "popped", Value.ref PL)] F8 (known_cons g1 known_nil)
        have hown : ∀ p ∈ ow7 ++ ((SP, listOf (List.toArray ps) 0) :: (PL, listOf (List.toArray out) out.length) :: own), p.1 ≠ s₁.heap.objs.size + 1 + 1 ∧ p.1 ≠ s₁.heap.objs.size + 1 + 1 + 1 := fun p hp => by
          rcases List.mem_append.mp hp with h | h
          · rcases hown7 p h with e | e
            · rw [e]; exact ⟨Nat.ne_of_gt (hlt7 _ (.head _)), Nat.ne_of_gt (hlt7 _ (.tail _ (.head _)))⟩
            · rw [e]; exact ⟨hSPP, hSPI⟩
          · simp only [List.mem_cons] at h
            rcases h with rfl | rfl | h
            · exact ⟨hSPP, hSPI⟩
            · exact ⟨Ne.symm hPP, Ne.symm hIP⟩
            · exact ⟨hPo p h, hIo p h⟩
        have N9' := news_sub (news' := (s₁.heap.objs.size + 1 + 1, oP) :: (s₁.heap.objs.size + 1 + 1 + 1, oI) :: (ow7 ++ ((SP, listOf (List.toArray ps) 0) :: (PL, listOf (List.toArray out) out.length) :: own))) N8 (by tb_start)
        clear F8 N8
        have hr7 : ∀ p ∈ ow7 ++ ((SP, listOf (List.toArray ps) 0) :: (PL, listOf (List.toArray out) out.length) :: own), p ∈ ow7 ++ ((SP, listOf (List.toArray ps) 0) :: (PL, listOf (List.toArray out) out.length) :: own) := fun _ h => h
        generalize hrr : ow7 ++ ((SP, listOf (List.toArray ps) 0) :: (PL, listOf (List.toArray out) out.length) :: own) = rest7 at N9' hown
        have hPL7 : (PL, listOf (List.toArray out) out.length) ∈ rest7 := by rw [← hrr]; exact List.mem_append_right _ (.tail _ (.head _))
        have hown7' : ∀ p ∈ own, p ∈ rest7 := fun p hp => by rw [← hrr]; exact List.mem_append_right _ (.tail _ (.tail _ hp))
        dsimp only [List.lookup] at F9'
        (try dsimp only)
        k_unmd
        (repeat' (first | ((fail_if_success (with_reducible first | refine Mine.z1 ?_ | refine Mine.z2 ?_ | refine Mine.z3 ?_ | refine Mine.z4 ?_ | refine Mine.z5 ?_ | refine Mine.z6 ?_ | refine Mine.z7 ?_ | refine Mine.z8 ?_ | refine Mine.z9 ?_ | refine Mine.z10 ?_ | refine Mine.z11 ?_ | refine Mine.z12 ?_ | refine Mine.z13 ?_ | refine Mine.z14 ?_ | refine Mine.z15 ?_ | refine Mine.z16 ?_)); (first | (with_reducible refine Mine.z18 ?_) | (fail_if_success (with_reducible refine Mine.z17 ?_))); (first | (k_unfold; (try dsimp only)) | walk1 | (dsimp only; walk1))) | fail "no step"))
        refine storeX_C F9' N9' rfl (UpdF.head fun p hp => ?_) hoP (fun h8 oP8 F10 N10 dP8 => ?_) rfl rfl
        · rcases List.mem_cons.mp hp with rfl | hp
          · exact hIPc
          · exact (hown p hp).1
        clear F9' N9'
        (try dsimp only)
        k_unmd
        (repeat' (first | ((fail_if_success (with_reducible first | refine Mine.z1 ?_ | refine Mine.z2 ?_ | refine Mine.z3 ?_ | refine Mine.z4 ?_ | refine Mine.z5 ?_ | refine Mine.z6 ?_ | refine Mine.z7 ?_ | refine Mine.z8 ?_ | refine Mine.z9 ?_ | refine Mine.z10 ?_ | refine Mine.z11 ?_ | refine Mine.z12 ?_ | refine Mine.z13 ?_ | refine Mine.z14 ?_ | refine Mine.z15 ?_ | refine Mine.z16 ?_)); (first | (with_reducible refine Mine.z18 ?_) | (fail_if_success (with_reducible refine Mine.z17 ?_))); (first | (k_unfold; (try dsimp only)) | walk1 | (dsimp only; walk1))) | fail "no step"))
        clear pm doc hg l o1 o2 d1 d2 hIo hPo hpo hB tk mE hE tkE hPP hIP SL hSL hol tz g10 hys Y h12 tk12 oY hSP hsvE hsp hSPP hSPI i oI7 cP hoP g1 hI7 hSI hlt7 hown7 hv7 hr7
        revert w s₀ s₁ mg mb fa KX Tp aw2 ns K0 qk ek H Ds L14 Dn ws2 hI1 T ts own zb14 htl PL ht2 SD out hyl2 X1 ST0 zb3 qs hql hqp hqU hqA yl hyl ps hpsl hIPc SP m7 h7 tk7 ow7 I7 oP oI cI hoI hoff7 pl hplm tp rest7 hrr hown hPL7 hown7' h8 oP8 F10 N10 dP8
        exact hCutA.out
      · clear mg mb pm doc KX Tp l K0 o1 o2 d1 d2 H Ds L14 Dn ws2 hI1 T ts hIo hPo zb14 htl ht2 SD hpo hyl2 X1 ST0 zb3 hB tk qs hql hqp hqU hqA mE hE tkE hPP hIP SL hSL hol tz g10 yl hys Y oY hyl F13 hsvE hsp hpsl hIPc N14 hSPP hSPI
        revert w s₀ s₁ fa hg aw2 ns qk ek own PL out h12 tk12 hSP ps SP
        exact hCutB.out
end Mine

namespace Mine
theorem law7 : law3.D := by
  intro w s₀ s₁ fa hg aw2 ns qk ek own PL out h12 tk12 hSP ps SP
  w_top off
  intro mR nwR hR tkR hJR FR NR
  (try dsimp only)
  k_unmd
  (repeat' (first | ((fail_if_success (with_reducible first | refine Mine.z1 ?_ | refine Mine.z2 ?_ | refine Mine.z3 ?_ | refine Mine.z4 ?_ | refine Mine.z5 ?_ | refine Mine.z6 ?_ | refine Mine.z7 ?_ | refine Mine.z8 ?_ | refine Mine.z9 ?_ | refine Mine.z10 ?_ | refine Mine.z11 ?_ | refine Mine.z12 ?_ | refine Mine.z13 ?_ | refine Mine.z14 ?_ | refine Mine.z15 ?_ | refine Mine.z16 ?_)); (first | (with_reducible refine Mine.z18 ?_) | (fail_if_success (with_reducible refine Mine.z17 ?_))); (first | (k_unfold; (try dsimp only)) | walk1 | (dsimp only; walk1))) | fail "no step"))
  dsimp only [qk]
  wrow_close
end Mine

namespace Mine
def law4 : Cut (law3.C) := by
  apply Cut.mk
  case h =>
    intro hCutA
    intro w s₀ s₁ mg mb fa KX Tp aw2 ns K0 qk ek H Ds L14 Dn ws2 hI1 T ts own zb14 htl PL ht2 SD out hyl2 X1 ST0 zb3 qs hql hqp hqU hqA yl hyl ps hpsl hIPc SP m7 h7 tk7 ow7 I7 oP oI cI hoI hoff7 pl hplm tp rest7 hrr hown hPL7 hown7' h8 oP8 F10 N10 dP8
    w_top off
    refine wpAny_Assign_Name (hs := by with_unfolding_all rfl) ?_
    refine LCt.ListComp_T F10 (by with_unfolding_all rfl) (by decide) (by rfl) (by decide) (by rfl) ?_
    (repeat' (first | ((fail_if_success (with_reducible first | refine Mine.z1 ?_ | refine Mine.z2 ?_ | refine Mine.z3 ?_ | refine Mine.z4 ?_ | refine Mine.z5 ?_ | refine Mine.z6 ?_ | refine Mine.z7 ?_ | refine Mine.z8 ?_ | refine Mine.z9 ?_ | refine Mine.z10 ?_ | refine Mine.z11 ?_ | refine Mine.z12 ?_ | refine Mine.z13 ?_ | refine Mine.z14 ?_ | refine Mine.z15 ?_ | refine Mine.z16 ?_)); (first | (with_reducible refine Mine.z18 ?_) | (fail_if_success (with_reducible refine Mine.z17 ?_))); (first | (k_unfold; (try dsimp only)) | walk1 | (dsimp only; walk1))) | fail "no step"))
    have hplA : pl ∈ [] :: allP := by
      rcases List.mem_cons.mp hplm with h | h
      · rw [h]; exact .head _
      · exact .tail _ (hqA pl h)
    refine LCt.CompSrcT.ledger (its := List.toArray out) (k := out.length) rfl F10 N10 (.tail _ (.tail _ hPL7)) (by rw [sizeLine_eq]; show (List.toArray out).size ≤ _; rw [List.size_toArray]; omega) fun g10 => ?_
    refine restT_of out.length (fun i8 ys nw => StrsAre ys ((insOf (qs.take i8) pl).map nm) ∧ nw = (s₁.heap.objs.size + 1 + 1, oP8) :: (s₁.heap.objs.size + 1 + 1 + 1, oI) :: rest7) ?_ ?_ _ 0 [] _ (by rw [List.size_toArray]; omega) ⟨.nil, rfl⟩
    · rintro i8 ys nw v I2 oI2 C oC D m2 h12 tk12 E2 hi8 ⟨hys, rfl⟩ hv2 hoC hm2 F12 N12 off12 ne12
      obtain ⟨ds, hds⟩ : ∃ ds, qs[i8]? = some ds := ⟨_, List.getElem?_eq_getElem (by rw [hql]; exact hi8)⟩
      obtain ⟨an, xs, cn, rfl, hma, hxs⟩ := hqp i8 v ds (by simpa using hv2) hds
      have hdA := hqA ds (List.mem_of_getElem? hds)
      have hplD := path_len ds (.tail _ hdA)
      have hpd := path_drop ds hdA
      have hma7 := hown7' _ hma
      clear hv2
      (repeat' (first | ((fail_if_success (with_reducible first | refine Mine.z1 ?_ | refine Mine.z2 ?_ | refine Mine.z3 ?_ | refine Mine.z4 ?_ | refine Mine.z5 ?_ | refine Mine.z6 ?_ | refine Mine.z7 ?_ | refine Mine.z8 ?_ | refine Mine.z9 ?_ | refine Mine.z10 ?_ | refine Mine.z11 ?_ | refine Mine.z12 ?_ | refine Mine.z13 ?_ | refine Mine.z14 ?_ | refine Mine.z15 ?_ | refine Mine.z16 ?_)); (first | (with_reducible refine Mine.z18 ?_) | (fail_if_success (with_reducible refine Mine.z17 ?_))); (first | (k_unfold; (try dsimp only)) | walk1 | (dsimp only; walk1))) | fail "no step"))
      refine join_list (PySem.IsL.isList (N12 (an, listOf (List.toArray xs) cn) (by simp only [List.mem_cons]; simp [hma7])).1) hxs (Nat.le_trans (join_sum ds (.tail _ hdA)) (by decide)) ?_
      (try dsimp only)
      k_unmd
      (repeat' (first | ((fail_if_success (with_reducible first | refine Mine.z1 ?_ | refine Mine.z2 ?_ | refine Mine.z3 ?_ | refine Mine.z4 ?_ | refine Mine.z5 ?_ | refine Mine.z6 ?_ | refine Mine.z7 ?_ | refine Mine.z8 ?_ | refine Mine.z9 ?_ | refine Mine.z10 ?_ | refine Mine.z11 ?_ | refine Mine.z12 ?_ | refine Mine.z13 ?_ | refine Mine.z14 ?_ | refine Mine.z15 ?_ | refine Mine.z16 ?_)); (first | (with_reducible refine Mine.z18 ?_) | (fail_if_success (with_reducible refine Mine.z17 ?_))); (first | (k_unfold; (try dsimp only)) | walk1 | (dsimp only; walk1))) | fail "no step"))
      refine add_path (.tail _ hdA) fun t14 k14 => ?_
      (try dsimp only)
      k_unmd
      (repeat' (first | ((fail_if_success (with_reducible first | refine Mine.z1 ?_ | refine Mine.z2 ?_ | refine Mine.z3 ?_ | refine Mine.z4 ?_ | refine Mine.z5 ?_ | refine Mine.z6 ?_ | refine Mine.z7 ?_ | refine Mine.z8 ?_ | refine Mine.z9 ?_ | refine Mine.z10 ?_ | refine Mine.z11 ?_ | refine Mine.z12 ?_ | refine Mine.z13 ?_ | refine Mine.z14 ?_ | refine Mine.z15 ?_ | refine Mine.z16 ?_)); (first | (with_reducible refine Mine.z18 ?_) | (fail_if_success (with_reducible refine Mine.z17 ?_))); (first | (k_unfold; (try dsimp only)) | walk1 | (dsimp only; walk1))) | fail "no step"))
      refine dirname_c (by k_asm) F12 (by k_asm) (by k_asm) rfl rfl (by first | ktr_room | decide) (by first | ktr_units | decide) N12 hplD.2 fun h14 tk14 t15 F33 N33 => ?_
      rw [dir_path ds hdA]
      clear F12 N12
      (try dsimp only)
      k_unmd
      (repeat' (first | ((fail_if_success (with_reducible first | refine Mine.z1 ?_ | refine Mine.z2 ?_ | refine Mine.z3 ?_ | refine Mine.z4 ?_ | refine Mine.z5 ?_ | refine Mine.z6 ?_ | refine Mine.z7 ?_ | refine Mine.z8 ?_ | refine Mine.z9 ?_ | refine Mine.z10 ?_ | refine Mine.z11 ?_ | refine Mine.z12 ?_ | refine Mine.z13 ?_ | refine Mine.z14 ?_ | refine Mine.z15 ?_ | refine Mine.z16 ?_)); (first | (with_reducible refine Mine.z18 ?_) | (fail_if_success (with_reducible refine Mine.z17 ?_))); (first | (k_unfold; (try dsimp only)) | walk1 | (dsimp only; walk1))) | fail "no step"))
      · rename ((_ == _) = true) => hq
        have hdp : ds.dropLast = pl := path_inj _ hpd.1 pl hplA (by simpa using hq)
        have hxl : xs.length = ds.length := by rw [hxs.len_eq, List.length_map]
        have hsh := allP_shape ds hdA
        obtain ⟨tn, hxn⟩ := hxs.at (j := ds.length - 1) (y := nm (ds.getLastD 0)) (by rw [List.getElem?_map, last_get ds hdA]; rfl)
        refine back_at (i := ds.length - 1) (N33 (an, listOf (List.toArray xs) cn) (by simp only [List.mem_cons]; simp [hma7])).1 (by decide) (by omega) hxn (by omega) ?_
        refine LCg.CompEnd.intro F33 N33 _ (fun _ h => h) off12 (.inr ⟨_, .tail _ (.tail _ hPL7), rfl, _, rfl⟩) ⟨?_, rfl⟩
        rw [ins_yes hds hdp, List.map_append]
        exact hys.append' (.cons _ _ .nil)
      · rename ((_ == _) = false) => hq
        refine LCg.CompEnd.intro F33 N33 _ (fun _ h => h) off12 (.inr ⟨_, .tail _ (.tail _ hPL7), rfl, _, rfl⟩) ⟨?_, rfl⟩
        rw [ins_no hds fun e => by rw [e] at hq; simp at hq]
        exact hys
    · rintro il _ ⟨hyI, rfl⟩ IN h13 tk13 F13 N13 oIN
      clear F10 N10
      rw [← hql, List.take_length] at hyI
      have hio := ins_ok hqU hqA pl
      have hsub := subs_of hio.1 hio.2
      generalize insOf qs pl = ins at hyI hio hsub
      have hil : il.length = ins.length := by rw [hyI.len_eq, List.length_map]
      have hin3 := subs_len ins hsub
      have oIN' := off1_mem oIN
      refine storeX_C F13 N13 rfl (UpdF.tail (Ne.symm (oIN' _ (.tail _ (.head _)))) (UpdF.tail (Ne.symm hIPc) (UpdF.head fun p hp => (hown p hp).2))) hoI (fun h14 oI8 F14 N14 dI8 => ?_) rfl rfl
      clear F13 N13
      (try dsimp only)
      k_unmd
      (repeat' (first | ((fail_if_success (with_reducible first | refine Mine.z1 ?_ | refine Mine.z2 ?_ | refine Mine.z3 ?_ | refine Mine.z4 ?_ | refine Mine.z5 ?_ | refine Mine.z6 ?_ | refine Mine.z7 ?_ | refine Mine.z8 ?_ | refine Mine.z9 ?_ | refine Mine.z10 ?_ | refine Mine.z11 ?_ | refine Mine.z12 ?_ | refine Mine.z13 ?_ | refine Mine.z14 ?_ | refine Mine.z15 ?_ | refine Mine.z16 ?_)); (first | (with_reducible refine Mine.z18 ?_) | (fail_if_success (with_reducible refine Mine.z17 ?_))); (first | (k_unfold; (try dsimp only)) | walk1 | (dsimp only; walk1))) | fail "no step"))
      clear ws2 hI1 htl ht2 hyl2 hql hqp hqU hqA hyl hpsl hIPc cI hoI hplm hown hPL7 hown7' h8 hplA g10 h13 oIN oIN'
      revert w s₀ s₁ mg mb fa KX Tp aw2 ns K0 qk ek H Ds L14 Dn T ts own zb14 PL SD out X1 ST0 zb3 qs yl ps SP m7 h7 tk7 ow7 I7 oP oI hoff7 pl tp rest7 hrr oP8 dP8 il IN tk13 ins hyI hio hsub hil hin3 h14 oI8 F14 N14 dI8
      exact hCutA.out
end Mine

namespace Mine
def law5 : Cut (law4.C) := by
  apply Cut.mk
  case h =>
    intro hCutA
    intro w s₀ s₁ mg mb fa KX Tp aw2 ns K0 qk ek H Ds L14 Dn T ts own zb14 PL SD out X1 ST0 zb3 qs yl ps SP m7 h7 tk7 ow7 I7 oP oI hoff7 pl tp rest7 hrr oP8 dP8 il IN tk13 ins hyI hio hsub hil hin3 h14 oI8 F14 N14 dI8
    w_top off
    refine Assign_ListComp_two F14 (by rfl) (by with_unfolding_all rfl) (by with_unfolding_all rfl) (by decide) (by rfl) (by decide) (by rfl) (by rfl) (by decide) (by rfl) (by rfl) ?_
    (repeat' (first | ((fail_if_success (with_reducible first | refine Mine.z1 ?_ | refine Mine.z2 ?_ | refine Mine.z3 ?_ | refine Mine.z4 ?_ | refine Mine.z5 ?_ | refine Mine.z6 ?_ | refine Mine.z7 ?_ | refine Mine.z8 ?_ | refine Mine.z9 ?_ | refine Mine.z10 ?_ | refine Mine.z11 ?_ | refine Mine.z12 ?_ | refine Mine.z13 ?_ | refine Mine.z14 ?_ | refine Mine.z15 ?_ | refine Mine.z16 ?_)); (first | (with_reducible refine Mine.z18 ?_) | (fail_if_success (with_reducible refine Mine.z17 ?_))); (first | (k_unfold; (try dsimp only)) | walk1 | (dsimp only; walk1))) | fail "no step"))
    refine TwoList.mk (its := il) (c := il.length) (fun i8 ys nw => IntsAre ys ((ins.take i8).flatMap fun a => ins.map (cmpN a)) ∧ nw = (IN, LCg.lst il) :: (s₁.heap.objs.size + 1 + 1, oP8) :: (s₁.heap.objs.size + 1 + 1 + 1, oI8) :: rest7)
      (fun i8 v ax its j ys nw => IN = ax ∧ il = its ∧ j ≤ il.length ∧ (∃ a t, ins[i8]? = some a ∧ v = .str (nm a) t ∧ IntsAre ys (((ins.take i8).flatMap fun a => ins.map (cmpN a)) ++ (ins.take j).map (cmpN a))) ∧ nw = (IN, LCg.lst il) :: (s₁.heap.objs.size + 1 + 1, oP8) :: (s₁.heap.objs.size + 1 + 1 + 1, oI8) :: rest7)
      rfl F14 N14 (.head _) ?_ ⟨.nil, rfl⟩ ?_ ?_ ?_ ?_
    · rintro i8 v ax its j ys nw ⟨rfl, rfl, hj, ⟨a, t, ha, rfl, hI8⟩, rfl⟩
      have hl := hI8.length
      rw [List.length_append, flat_len, List.length_map, List.length_take, List.length_take] at hl
      have : min i8 ins.length * ins.length ≤ 3 * 3 := Nat.mul_le_mul (by omega) hin3
      omega
    · intro g10 I10
      rintro i8 v ys nw oI10 C oC D m2 h15 tk15 E15 hi8 hv8 ⟨hys8, rfl⟩ hoC hm2 F15 N15 off15 ne15 hS15
      obtain ⟨y, t, rfl, hy⟩ := hyI.item i8 v hv8
      obtain ⟨a, ha, rfl⟩ : ∃ a, ins[i8]? = some a ∧ nm a = y := by
        rw [List.getElem?_map] at hy
        cases q : ins[i8]? with
        | none => rw [q] at hy; simp at hy
        | some a => rw [q] at hy; exact ⟨a, rfl, by simpa using hy⟩
      refine lcf_cell N15 rfl (.tail _ (.tail _ (.tail _ (.tail _ (.tail _ (.head _)))))) dI8 ?_ rfl rfl
      exact OuterEnd.intro il il.length _ F15 N15 (fun _ h => h) off15 hS15 (.head _) ⟨rfl, rfl, Nat.zero_le _, ⟨a, t, ha, rfl, by simpa using hys8⟩, rfl⟩
    · intro g10 I10
      rintro i8 v ax its c j u ys nw oI10 I2 oI2 C oC D m2 h15 tk15 E15 hu ⟨rfl, rfl, hj, ⟨a, t, ha, rfl, hI8⟩, rfl⟩ hax hoC hmx hmy F15 N15 off15 hnI2 ne2 ne15 hS15
      obtain ⟨y, t2, rfl, hy⟩ := hyI.item j u hu
      obtain ⟨b, hb, rfl⟩ : ∃ b, ins[j]? = some b ∧ nm b = y := by
        rw [List.getElem?_map] at hy
        cases q : ins[j]? with
        | none => rw [q] at hy; simp at hy
        | some a => rw [q] at hy; exact ⟨a, rfl, by simpa using hy⟩
      (repeat' (first | ((fail_if_success (with_reducible first | refine Mine.z1 ?_ | refine Mine.z2 ?_ | refine Mine.z3 ?_ | refine Mine.z4 ?_ | refine Mine.z5 ?_ | refine Mine.z6 ?_ | refine Mine.z7 ?_ | refine Mine.z8 ?_ | refine Mine.z9 ?_ | refine Mine.z10 ?_ | refine Mine.z11 ?_ | refine Mine.z12 ?_ | refine Mine.z13 ?_ | refine Mine.z14 ?_ | refine Mine.z15 ?_ | refine Mine.z16 ?_)); (first | (with_reducible refine Mine.z18 ?_) | (fail_if_success (with_reducible refine Mine.z17 ?_))); (first | (k_unfold; (try dsimp only)) | walk1 | (dsimp only; walk1))) | fail "no step"))
      refine strcoll_c (by k_asm) F15 (by k_asm) (by k_asm) rfl rfl (by first | ktr_room | decide) (by first | ktr_units | decide) N15 fun h16 tk16 t16 F16 N16 => ?_
      rw [cmp_nm a (hio.2 a (List.mem_of_getElem? ha)) b (hio.2 b (List.mem_of_getElem? hb))]
      have hjl : j < il.length := (List.getElem?_eq_some_iff.mp hu).1
      refine InnerEnd.intro _ F16 N16 off15 hnI2 hS15 hax ⟨rfl, rfl, hjl, ⟨a, t, ha, rfl, ?_⟩, rfl⟩
      rw [List.take_add_one, hb, List.map_append, ← List.append_assoc]
      exact ksk_snoc hI8
    · rintro i8 v ax its ys nw ⟨rfl, rfl, hj, ⟨a, t, ha, rfl, hI8⟩, rfl⟩
      refine ⟨?_, rfl⟩
      rw [List.take_add_one, ha, List.flatMap_append]
      rw [List.take_of_length_le (show ins.length ≤ il.length by omega)] at hI8
      simpa using hI8
    · rintro g10 yc nw ⟨hI8, rfl⟩ CD h15 tk15 F15 N15 oCD
      clear F14 N14
      rw [List.take_of_length_le (show ins.length ≤ il.length by omega), rows_eq ins hsub] at hI8
      have oCD' := off1_mem oCD
      (try dsimp only)
      k_unmd
      (repeat' (first | ((fail_if_success (with_reducible first | refine Mine.z1 ?_ | refine Mine.z2 ?_ | refine Mine.z3 ?_ | refine Mine.z4 ?_ | refine Mine.z5 ?_ | refine Mine.z6 ?_ | refine Mine.z7 ?_ | refine Mine.z8 ?_ | refine Mine.z9 ?_ | refine Mine.z10 ?_ | refine Mine.z11 ?_ | refine Mine.z12 ?_ | refine Mine.z13 ?_ | refine Mine.z14 ?_ | refine Mine.z15 ?_ | refine Mine.z16 ?_)); (first | (with_reducible refine Mine.z18 ?_) | (fail_if_success (with_reducible refine Mine.z17 ?_))); (first | (k_unfold; (try dsimp only)) | walk1 | (dsimp only; walk1))) | fail "no step"))
      refine ListComp_two F15 (by with_unfolding_all rfl) (by decide) (by rfl) (by decide) (by rfl) (by rfl) (by decide) ?_
      (repeat' (first | ((fail_if_success (with_reducible first | refine Mine.z1 ?_ | refine Mine.z2 ?_ | refine Mine.z3 ?_ | refine Mine.z4 ?_ | refine Mine.z5 ?_ | refine Mine.z6 ?_ | refine Mine.z7 ?_ | refine Mine.z8 ?_ | refine Mine.z9 ?_ | refine Mine.z10 ?_ | refine Mine.z11 ?_ | refine Mine.z12 ?_ | refine Mine.z13 ?_ | refine Mine.z14 ?_ | refine Mine.z15 ?_ | refine Mine.z16 ?_)); (first | (with_reducible refine Mine.z18 ?_) | (fail_if_success (with_reducible refine Mine.z17 ?_))); (first | (k_unfold; (try dsimp only)) | walk1 | (dsimp only; walk1))) | fail "no step"))
      refine len_at (N15 (IN, LCg.lst il) (.tail _ (.head _))).1 (by omega) ?_
      (try dsimp only)
      k_unmd
      (repeat' (first | ((fail_if_success (with_reducible first | refine Mine.z1 ?_ | refine Mine.z2 ?_ | refine Mine.z3 ?_ | refine Mine.z4 ?_ | refine Mine.z5 ?_ | refine Mine.z6 ?_ | refine Mine.z7 ?_ | refine Mine.z8 ?_ | refine Mine.z9 ?_ | refine Mine.z10 ?_ | refine Mine.z11 ?_ | refine Mine.z12 ?_ | refine Mine.z13 ?_ | refine Mine.z14 ?_ | refine Mine.z15 ?_ | refine Mine.z16 ?_)); (first | (with_reducible refine Mine.z18 ?_) | (fail_if_success (with_reducible refine Mine.z17 ?_))); (first | (k_unfold; (try dsimp only)) | walk1 | (dsimp only; walk1))) | fail "no step"))
      rename_i hR5 F16 N16 _
      have hsm5 : Builtin.Range.small 0 ((il.length : Nat) : Int) 1 = true ∧ Builtin.Range.rangeSize 0 ((il.length : Nat) : Int) 1 = ((ins.length : Nat) : Int) := by
        rw [hil]
        have : ins.length = 0 ∨ ins.length = 1 ∨ ins.length = 2 ∨ ins.length = 3 := le3 hin3
        rcases this with h | h | h | h <;> rw [h] <;> decide
      refine TwoRange.mk (n := ins.length) (fun i8 ys nw => IntsAre ys ((List.range i8).flatMap (rowN ins.length)) ∧ ∀ p ∈ (CD, LCg.lst yc) :: (IN, LCg.lst il) :: (s₁.heap.objs.size + 1 + 1, oP8) :: (s₁.heap.objs.size + 1 + 1 + 1, oI8) :: rest7, p ∈ nw)
        (fun i8 v ax its j ys nw => i8 < ins.length ∧ (∃ t, v = .int (0 + (i8 : Int)) t) ∧ IntsAre its (rowN ins.length i8) ∧ IntsAre ys ((List.range i8).flatMap (rowN ins.length) ++ (rowN ins.length i8).take j) ∧ ∃ c, nw = (ax, listOf (List.toArray its) c) :: (CD, LCg.lst yc) :: (IN, LCg.lst il) :: (s₁.heap.objs.size + 1 + 1, oP8) :: (s₁.heap.objs.size + 1 + 1 + 1, oI8) :: rest7)
        rfl F16 N16 hR5 hsm5.1 hsm5.2 ?_ ⟨.nil, fun _ h => h⟩ ?_ ?_ ?_ ?_
      · rintro i8 v ax its j ys nw ⟨hi8, ht8, hits, hys8, c8, rfl⟩
        have hl := hys8.length
        rw [List.length_append, rows_len _ (Nat.le_of_lt hi8), List.length_take, row_len hi8] at hl
        have : i8 * ins.length ≤ 3 * 3 := Nat.mul_le_mul (by omega) hin3
        omega
      · intro g11 I11
        rintro i8 v ys nw oI10 C oC D m2 h17 tk17 E17 hi8 ⟨t8, rfl⟩ ⟨hys8, hB⟩ hoC hm2 F17 N17' off17' ne17 hS17
        have N17 := news_sub (news' := (I11, oI10) :: (C, oC) :: (D, LCg.lst ys) :: (CD, LCg.lst yc) :: (IN, LCg.lst il) :: (s₁.heap.objs.size + 1 + 1, oP8) :: (s₁.heap.objs.size + 1 + 1 + 1, oI8) :: rest7) N17' (fun p hp => by
          rcases List.mem_cons.mp hp with h | hp
          · rw [h]; exact .head _
          · rcases List.mem_cons.mp hp with h | hp
            · rw [h]; exact .tail _ (.head _)
            · rcases List.mem_cons.mp hp with h | hp
              · rw [h]; exact .tail _ (.tail _ (.head _))
              · exact .tail _ (.tail _ (.tail _ (hB p hp))))
        have off17 : ∀ p ∈ (CD, LCg.lst yc) :: (IN, LCg.lst il) :: (s₁.heap.objs.size + 1 + 1, oP8) :: (s₁.heap.objs.size + 1 + 1 + 1, oI8) :: rest7, p.1 ≠ I11 ∧ p.1 ≠ C ∧ p.1 ≠ D := fun p hp => off17'.mem p (hB p hp)
        clear N17' off17'
        (repeat' (first | ((fail_if_success (with_reducible first | refine Mine.z1 ?_ | refine Mine.z2 ?_ | refine Mine.z3 ?_ | refine Mine.z4 ?_ | refine Mine.z5 ?_ | refine Mine.z6 ?_ | refine Mine.z7 ?_ | refine Mine.z8 ?_ | refine Mine.z9 ?_ | refine Mine.z10 ?_ | refine Mine.z11 ?_ | refine Mine.z12 ?_ | refine Mine.z13 ?_ | refine Mine.z14 ?_ | refine Mine.z15 ?_ | refine Mine.z16 ?_)); (first | (with_reducible refine Mine.z18 ?_) | (fail_if_success (with_reducible refine Mine.z17 ?_))); (first | (k_unfold; (try dsimp only)) | walk1 | (dsimp only; walk1))) | fail "no step"))
        rename News _ _ _ _ => N18
        refine len_at (N18 (IN, LCg.lst il) (by k_mem)).1 (by omega) ?_
        (try dsimp only)
        k_unmd
        (repeat' (first | ((fail_if_success (with_reducible first | refine Mine.z1 ?_ | refine Mine.z2 ?_ | refine Mine.z3 ?_ | refine Mine.z4 ?_ | refine Mine.z5 ?_ | refine Mine.z6 ?_ | refine Mine.z7 ?_ | refine Mine.z8 ?_ | refine Mine.z9 ?_ | refine Mine.z10 ?_ | refine Mine.z11 ?_ | refine Mine.z12 ?_ | refine Mine.z13 ?_ | refine Mine.z14 ?_ | refine Mine.z15 ?_ | refine Mine.z16 ?_)); (first | (with_reducible refine Mine.z18 ?_) | (fail_if_success (with_reducible refine Mine.z17 ?_))); (first | (k_unfold; (try dsimp only)) | walk1 | (dsimp only; walk1))) | fail "no step"))
        rename_i D9 ws9 h9' F19 N19 hI9 l9
        rw [row_flat (n := ins.length) (k := i8) (by omega) (toNat2 i8 hil)] at hI9
        refine OuterEnd.intro ws9 0 ((D9, listOf (List.toArray ws9) 0) :: (CD, LCg.lst yc) :: (IN, LCg.lst il) :: (s₁.heap.objs.size + 1 + 1, oP8) :: (s₁.heap.objs.size + 1 + 1 + 1, oI8) :: rest7) F19 N19 ?_ (LCg.Off3.of fun p hp => ?_) trivial (.head _) ⟨hi8, ⟨_, rfl⟩, hI9, by simpa using hys8, 0, rfl⟩
        · tb_start
        · rcases List.mem_cons.mp hp with rfl | hp
          · exact ⟨Nat.ne_of_gt l9.2.2.2.2.2.2.1, Nat.ne_of_gt l9.2.2.2.2.2.2.2.1, Nat.ne_of_gt l9.2.2.2.2.2.2.2.2.1⟩
          · exact off17 p hp
      · intro g11 I11
        rintro i8 v ax its c j u ys nw oI10 I2 oI2 C oC D m2 h17 tk17 E17 hu ⟨hi8, ht8, hits, hys8, c8, rfl⟩ hax hoC hmx hmy F17 N17 off17 hnI2 ne2 ne17 hS17
        obtain ⟨k8, t9, rfl, hk8⟩ := ints_item hits j u hu
        (repeat' (first | ((fail_if_success (with_reducible first | refine Mine.z1 ?_ | refine Mine.z2 ?_ | refine Mine.z3 ?_ | refine Mine.z4 ?_ | refine Mine.z5 ?_ | refine Mine.z6 ?_ | refine Mine.z7 ?_ | refine Mine.z8 ?_ | refine Mine.z9 ?_ | refine Mine.z10 ?_ | refine Mine.z11 ?_ | refine Mine.z12 ?_ | refine Mine.z13 ?_ | refine Mine.z14 ?_ | refine Mine.z15 ?_ | refine Mine.z16 ?_)); (first | (with_reducible refine Mine.z18 ?_) | (fail_if_success (with_reducible refine Mine.z17 ?_))); (first | (k_unfold; (try dsimp only)) | walk1 | (dsimp only; walk1))) | fail "no step"))
        refine InnerEnd.intro _ F17 N17 off17 hnI2 trivial hax ⟨hi8, ht8, hits, ?_, c8, rfl⟩
        rw [List.take_add_one, hk8, ← List.append_assoc]
        exact ksk_snoc hys8
      · rintro i8 v ax its ys nw ⟨hi8, ht8, hits, hys8, c8, rfl⟩
        refine ⟨?_, fun p hp => .tail _ hp⟩
        rw [List.range_succ, List.flatMap_append, List.flatMap_cons, List.flatMap_nil, List.append_nil]
        rw [List.take_of_length_le (by rw [← hits.length]; exact Nat.le_refl _)] at hys8
        exact hys8
      · rintro g11 ye nw ⟨hye, hB⟩ ED h17 tk17 F17 N17' oED
        clear F16 N16
        have N17 := news_sub (news' := (ED, LCg.lst ye) :: (CD, LCg.lst yc) :: (IN, LCg.lst il) :: (s₁.heap.objs.size + 1 + 1, oP8) :: (s₁.heap.objs.size + 1 + 1 + 1, oI8) :: rest7) N17' (fun p hp => by
          rcases List.mem_cons.mp hp with h | hp
          · rw [h]; exact .head _
          · exact .tail _ (hB p hp))
        clear N17' oED
        (try dsimp only)
        k_unmd
        (repeat' (first | ((fail_if_success (with_reducible first | refine Mine.z1 ?_ | refine Mine.z2 ?_ | refine Mine.z3 ?_ | refine Mine.z4 ?_ | refine Mine.z5 ?_ | refine Mine.z6 ?_ | refine Mine.z7 ?_ | refine Mine.z8 ?_ | refine Mine.z9 ?_ | refine Mine.z10 ?_ | refine Mine.z11 ?_ | refine Mine.z12 ?_ | refine Mine.z13 ?_ | refine Mine.z14 ?_ | refine Mine.z15 ?_ | refine Mine.z16 ?_)); (first | (with_reducible refine Mine.z18 ?_) | (fail_if_success (with_reducible refine Mine.z17 ?_))); (first | (k_unfold; (try dsimp only)) | walk1 | (dsimp only; walk1))) | fail "no step"))
        refine ne_ints (N17 (CD, LCg.lst yc) (.tail _ (.head _))).1 (N17 _ (.head _)).1 hI8 hye (by first | ktr_units | decide) ?_
        (try dsimp only)
        k_unmd
        (repeat' (first | ((fail_if_success (with_reducible first | refine Mine.z1 ?_ | refine Mine.z2 ?_ | refine Mine.z3 ?_ | refine Mine.z4 ?_ | refine Mine.z5 ?_ | refine Mine.z6 ?_ | refine Mine.z7 ?_ | refine Mine.z8 ?_ | refine Mine.z9 ?_ | refine Mine.z10 ?_ | refine Mine.z11 ?_ | refine Mine.z12 ?_ | refine Mine.z13 ?_ | refine Mine.z14 ?_ | refine Mine.z15 ?_ | refine Mine.z16 ?_)); (first | (with_reducible refine Mine.z18 ?_) | (fail_if_success (with_reducible refine Mine.z17 ?_))); (first | (k_unfold; (try dsimp only)) | walk1 | (dsimp only; walk1))) | fail "no step"))
        rename_i zg7 zg6 zg5 zg4 zg3 zg2 zg1 zg0
        clear tk13 hsub h14 g10 h15 tk15 zg7 zg6 oCD oCD' zg5 zg4 zg3 zg2 zg1 hR5 zg0 g11 nw hB
        revert w s₀ s₁ mg mb fa KX Tp aw2 ns K0 qk ek H Ds L14 Dn T ts own zb14 PL SD out X1 ST0 zb3 qs yl ps SP m7 h7 tk7 ow7 I7 oP oI hoff7 pl tp rest7 hrr oP8 dP8 il IN ins hyI hio hil hin3 oI8 dI8 yc hI8 CD hsm5 ye hye ED h17 tk17 F17 N17
        exact hCutA.out
end Mine

namespace Mine
theorem law6 : law5.C := by
  intro w s₀ s₁ mg mb fa KX Tp aw2 ns K0 qk ek H Ds L14 Dn T ts own zb14 PL SD out X1 ST0 zb3 qs yl ps SP m7 h7 tk7 ow7 I7 oP oI hoff7 pl tp rest7 hrr oP8 dP8 il IN ins hyI hio hil hin3 oI8 dI8 yc hI8 CD hsm5 ye hye ED h17 tk17 F17 N17
  w_top off
  refine LCt.ListComp_T F17 (by with_unfolding_all rfl) (by decide) (by rfl) (by decide) (by rfl) ?_
  (repeat' (first | ((fail_if_success (with_reducible first | refine Mine.z1 ?_ | refine Mine.z2 ?_ | refine Mine.z3 ?_ | refine Mine.z4 ?_ | refine Mine.z5 ?_ | refine Mine.z6 ?_ | refine Mine.z7 ?_ | refine Mine.z8 ?_ | refine Mine.z9 ?_ | refine Mine.z10 ?_ | refine Mine.z11 ?_ | refine Mine.z12 ?_ | refine Mine.z13 ?_ | refine Mine.z14 ?_ | refine Mine.z15 ?_ | refine Mine.z16 ?_)); (first | (with_reducible refine Mine.z18 ?_) | (fail_if_success (with_reducible refine Mine.z17 ?_))); (first | (k_unfold; (try dsimp only)) | walk1 | (dsimp only; walk1))) | fail "no step"))
  have hcl := hI8.length
  rw [rows_len _ (Nat.le_refl _)] at hcl
  have hc9 : ins.length * ins.length ≤ 3 * 3 := Nat.mul_le_mul hin3 hin3
  refine LCt.CompSrcT.ledger (its := List.toArray yc) (k := yc.length) rfl F17 (news_sub (news' := (CD, LCg.lst yc) :: (IN, LCg.lst il) :: (s₁.heap.objs.size + 1 + 1, oP8) :: (s₁.heap.objs.size + 1 + 1 + 1, oI8) :: rest7) N17 fun p hp => .tail _ hp) (.head _) (by rw [sizeLine_eq]; show (List.toArray yc).size ≤ _; rw [List.size_toArray]; omega) fun g12 => ?_
  refine restT_of yc.length (fun i8 ys nw => ys = [] ∧ nw = (CD, LCg.lst yc) :: (IN, LCg.lst il) :: (s₁.heap.objs.size + 1 + 1, oP8) :: (s₁.heap.objs.size + 1 + 1 + 1, oI8) :: rest7) ?_ ?_ _ 0 [] _ (by rw [List.size_toArray]; omega) ⟨rfl, rfl⟩
  · rintro i8 ys nw v I2 oI2 C oC D m2 h18 tk18 E2 hi8 ⟨rfl, rfl⟩ hv2 hoC hm2 F18 N18 off18 ne18
    obtain ⟨k8, t8, rfl, hk8⟩ := ints_item hI8 i8 v (by simpa using hv2)
    clear hv2
    (repeat' (first | ((fail_if_success (with_reducible first | refine Mine.z1 ?_ | refine Mine.z2 ?_ | refine Mine.z3 ?_ | refine Mine.z4 ?_ | refine Mine.z5 ?_ | refine Mine.z6 ?_ | refine Mine.z7 ?_ | refine Mine.z8 ?_ | refine Mine.z9 ?_ | refine Mine.z10 ?_ | refine Mine.z11 ?_ | refine Mine.z12 ?_ | refine Mine.z13 ?_ | refine Mine.z14 ?_ | refine Mine.z15 ?_ | refine Mine.z16 ?_)); (first | (with_reducible refine Mine.z18 ?_) | (fail_if_success (with_reducible refine Mine.z17 ?_))); (first | (k_unfold; (try dsimp only)) | walk1 | (dsimp only; walk1))) | fail "no step"))
    exact LCg.CompEnd.intro F18 N18 _ (fun _ h => h) off18 (.inr ⟨_, .head _, rfl, _, rfl⟩) ⟨rfl, rfl⟩
  · rintro ys nw ⟨rfl, rfl⟩ TD h18 tk18 F18 N18 oTD
    (try dsimp only)
    k_unmd
    (repeat' (first | ((fail_if_success (with_reducible first | refine Mine.z1 ?_ | refine Mine.z2 ?_ | refine Mine.z3 ?_ | refine Mine.z4 ?_ | refine Mine.z5 ?_ | refine Mine.z6 ?_ | refine Mine.z7 ?_ | refine Mine.z8 ?_ | refine Mine.z9 ?_ | refine Mine.z10 ?_ | refine Mine.z11 ?_ | refine Mine.z12 ?_ | refine Mine.z13 ?_ | refine Mine.z14 ?_ | refine Mine.z15 ?_ | refine Mine.z16 ?_)); (first | (with_reducible refine Mine.z18 ?_) | (fail_if_success (with_reducible refine Mine.z17 ?_))); (first | (k_unfold; (try dsimp only)) | walk1 | (dsimp only; walk1))) | fail "no step"))
    rename News _ _ _ _ => N19
    refine ne_strs (vs := []) (ws := []) (S := []) (N19 (TD, LCg.lst []) (by k_mem)).1 (N19 _ (.head _)).1 .nil .nil (by first | ktr_units | decide) ?_
    (try dsimp only)
    k_unmd
    (repeat' (first | ((fail_if_success (with_reducible first | refine Mine.z1 ?_ | refine Mine.z2 ?_ | refine Mine.z3 ?_ | refine Mine.z4 ?_ | refine Mine.z5 ?_ | refine Mine.z6 ?_ | refine Mine.z7 ?_ | refine Mine.z8 ?_ | refine Mine.z9 ?_ | refine Mine.z10 ?_ | refine Mine.z11 ?_ | refine Mine.z12 ?_ | refine Mine.z13 ?_ | refine Mine.z14 ?_ | refine Mine.z15 ?_ | refine Mine.z16 ?_)); (first | (with_reducible refine Mine.z18 ?_) | (fail_if_success (with_reducible refine Mine.z17 ?_))); (first | (k_unfold; (try dsimp only)) | walk1 | (dsimp only; walk1))) | fail "no step"))
    rename Fr _ _ _ _ => F19
    rename News _ _ _ _ => N20
    refine rev_at F19 N20 (N20 (IN, LCg.lst il) (by k_mem)).1 (by omega) (fun RV h19 F20 N21 ltRV => ?_) (by with_unfolding_all rfl)
    clear F19 N20
    have hyR : StrsAre il.reverse (ins.reverse.map nm) := by rw [List.map_reverse]; exact strs_rev hyI
    generalize il.reverse = rl at hyR N21
    have hrl : rl.length = ins.length := by rw [hyR.len_eq, List.length_map, List.length_reverse]
    (try dsimp only)
    k_unmd
    (repeat' (first | ((fail_if_success (with_reducible first | refine Mine.z1 ?_ | refine Mine.z2 ?_ | refine Mine.z3 ?_ | refine Mine.z4 ?_ | refine Mine.z5 ?_ | refine Mine.z6 ?_ | refine Mine.z7 ?_ | refine Mine.z8 ?_ | refine Mine.z9 ?_ | refine Mine.z10 ?_ | refine Mine.z11 ?_ | refine Mine.z12 ?_ | refine Mine.z13 ?_ | refine Mine.z14 ?_ | refine Mine.z15 ?_ | refine Mine.z16 ?_)); (first | (with_reducible refine Mine.z18 ?_) | (fail_if_success (with_reducible refine Mine.z17 ?_))); (first | (k_unfold; (try dsimp only)) | walk1 | (dsimp only; walk1))) | fail "no step"))
    have hnf := names_facts hio.1 hio.2 hyR
    with_unfolding_all show wpAny _ _ (call (.builtin "sorted") [.ref RV] [(Str.ofString "key", .ref 35)]) _ _ _
    refine key_sorted (K := fun i => ins.reverse.getD i 0) F20 N21 (.head _) (by omega) hnf.1 hnf.2.1 hnf.2.2 (fun v hv h tk nw F21 N22 => ?_) fun SD9 h20 tk20 so cs hok F21 N22 ltS9 => ?_
    · obtain ⟨x, t, rfl⟩ := hnf.1 v hv
      refine strxfrm_c (by k_asm) F21 (by k_asm) (by k_asm) rfl rfl (by first | ktr_room | decide) (by first | ktr_units | decide) N22 fun h21 tk21 F22 N23 => ?_
      exact KeyBack.intro F22 N23 fun _ h => h
    have hso := out_names hio.1 hyR hok
    clear F20 N21
    (try dsimp only)
    k_unmd
    (repeat' (first | ((fail_if_success (with_reducible first | refine Mine.z1 ?_ | refine Mine.z2 ?_ | refine Mine.z3 ?_ | refine Mine.z4 ?_ | refine Mine.z5 ?_ | refine Mine.z6 ?_ | refine Mine.z7 ?_ | refine Mine.z8 ?_ | refine Mine.z9 ?_ | refine Mine.z10 ?_ | refine Mine.z11 ?_ | refine Mine.z12 ?_ | refine Mine.z13 ?_ | refine Mine.z14 ?_ | refine Mine.z15 ?_ | refine Mine.z16 ?_)); (first | (with_reducible refine Mine.z18 ?_) | (fail_if_success (with_reducible refine Mine.z17 ?_))); (first | (k_unfold; (try dsimp only)) | walk1 | (dsimp only; walk1))) | fail "no step"))
    refine ne_strs (N22 _ (.head _)).1 (N22 (IN, LCg.lst il) (by k_mem)).1 hso hyI (by first | ktr_units | decide) ?_
    (try dsimp only)
    k_unmd
    (repeat' (first | ((fail_if_success (with_reducible first | refine Mine.z1 ?_ | refine Mine.z2 ?_ | refine Mine.z3 ?_ | refine Mine.z4 ?_ | refine Mine.z5 ?_ | refine Mine.z6 ?_ | refine Mine.z7 ?_ | refine Mine.z8 ?_ | refine Mine.z9 ?_ | refine Mine.z10 ?_ | refine Mine.z11 ?_ | refine Mine.z12 ?_ | refine Mine.z13 ?_ | refine Mine.z14 ?_ | refine Mine.z15 ?_ | refine Mine.z16 ?_)); (first | (with_reducible refine Mine.z18 ?_) | (fail_if_success (with_reducible refine Mine.z17 ?_))); (first | (k_unfold; (try dsimp only)) | walk1 | (dsimp only; walk1))) | fail "no step"))
    rename Fr _ _ _ _ => F24
    rename News _ _ _ _ => N24
    have hr8 : ∀ p ∈ ow7 ++ ((SP, listOf (List.toArray ps) 0) :: (PL, listOf (List.toArray out) out.length) :: own), p ∈ rest7 := fun p hp => by rw [← hrr]; exact hp
    refine turn_next F24 N24 ((s₁.heap.objs.size + 1 + 1, oP8) :: (s₁.heap.objs.size + 1 + 1 + 1, oI8) :: (SP, listOf (List.toArray ps) 0) :: (PL, listOf (List.toArray out) out.length) :: own) (sub_app (fun p hp => ?_) (sub_cons (by k_mem) (sub_cons (by k_mem) fun p hp => ?_))) (fun p hp => ?_) ⟨oP8, _, oI8, _, rfl, dP8, dI8, by rfl⟩
    · have h := hr8 p (List.mem_append_left _ hp)
      repeat (first | exact h | refine List.Mem.tail _ ?_)
    · have h := hr8 p (List.mem_append_right _ hp)
      repeat (first | exact h | refine List.Mem.tail _ ?_)
    · rcases List.mem_cons.mp hp with rfl | hp
      · exact hoff7 (_, oP) (.head _)
      · rcases List.mem_cons.mp hp with rfl | hp
        · exact hoff7 (_, oI) (.tail _ (.head _))
        · exact hoff7 p (.tail _ (.tail _ hp))
end Mine
end
theorem PySem.Challenge.cw_il0111_01_holds : PySem.Challenge.rw_il0111_01.Holds := by
  exact Mine.law1.h ⟨Mine.law2.h ⟨Mine.law2b⟩⟩ ⟨Mine.law3.h ⟨Mine.law4.h ⟨Mine.law5.h ⟨Mine.law6⟩⟩⟩ ⟨Mine.law7⟩⟩
