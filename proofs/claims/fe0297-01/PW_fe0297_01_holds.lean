import PyProof.Rows.All
import Wide.All
import OpenK.AllK
import Wide.FinOn
import PySem.Challenge.RW_fe0297_01
set_option Elab.async false
set_option maxRecDepth 100000
set_option maxHeartbeats 8000000
section
open PySem
namespace Mine
/-- the width of a sign -/
def wid (c : Nat) : Nat := if c = 97 then 1 else if c = 12354 then 2 else if c = 35 then 1 else if c = 10084 then 1 else if c = 128512 then 2 else if c = 32 then 1 else 0
def n2w (c : Nat) : Bool := c == 35 || c == 10084
abbrev Span := Nat × Nat × Nat
/-- the pieces behind an open piece (start, size, may be widened) -/
def go : Nat → List Nat → Nat → Nat → Bool → List Span
  | i, [], st, sz, _ => [(st, i, sz)]
  | i, [c], st, sz, cw => if c = 8205 then [(st, i + 1, sz)] else if c = 65039 then [(st, i + 1, sz + if cw then 1 else 0)] else if wid c = 0 then [(st, i + 1, sz)] else [(st, i, sz), (i, i + 1, wid c)]
  | i, c :: d :: r, st, sz, cw =>
    if c = 8205 then go (i + 2) r st sz cw
    else if c = 65039 then go (i + 1) (d :: r) st (sz + if cw then 1 else 0) false
    else if wid c = 0 then go (i + 1) (d :: r) st sz cw
    else (st, i, sz) :: go (i + 1) (d :: r) i (wid c) (n2w c)
def tot : List Nat → Bool → Nat
  | [], _ => 0
  | [c], cw => if c = 8205 then 0 else if c = 65039 then (if cw then 1 else 0) else wid c
  | c :: d :: r, cw =>
    if c = 8205 then tot r cw
    else if c = 65039 then (if cw then 1 else 0) + tot (d :: r) false
    else if wid c = 0 then tot (d :: r) cw
    else wid c + tot (d :: r) (n2w c)
def pcs : List Nat → List Span
  | [] => []
  | c :: r => go 1 r 0 (wid c) (n2w c)
def total : List Nat → Nat
  | [] => 0
  | c :: r => wid c + tot r (n2w c)
theorem go_zwj_nil {i st sz cw} : go i [8205] st sz cw = [(st, i + 1, sz)] := by simp [go]
theorem go_zwj {i d r st sz cw} : go i (8205 :: d :: r) st sz cw = go (i + 2) r st sz cw := by rw [go]; simp
theorem go_vs {i r st sz cw} : go i (65039 :: r) st sz cw = go (i + 1) r st (sz + if cw then 1 else 0) false := by
  cases r with
  | nil => simp [go]
  | cons d r => rw [go]; simp
theorem go_zero {i c r st sz cw} (h1 : c ≠ 8205) (h2 : c ≠ 65039) (h3 : wid c = 0) : go i (c :: r) st sz cw = go (i + 1) r st sz cw := by
  cases r with
  | nil => simp [go, h1, h2, h3]
  | cons d r => rw [go]; simp [h1, h2, h3]
theorem go_wide {i c r st sz cw} (h1 : c ≠ 8205) (h2 : c ≠ 65039) (h3 : wid c ≠ 0) : go i (c :: r) st sz cw = (st, i, sz) :: go (i + 1) r i (wid c) (n2w c) := by
  cases r with
  | nil => simp [go, h1, h2, h3]
  | cons d r => rw [go]; simp [h1, h2, h3]
theorem tot_zwj_nil {cw} : tot [8205] cw = 0 := by simp [tot]
theorem tot_zwj {d r cw} : tot (8205 :: d :: r) cw = tot r cw := by rw [tot]; simp
theorem tot_vs {r cw} : tot (65039 :: r) cw = (if cw then 1 else 0) + tot r false := by
  cases r with
  | nil => simp [tot]
  | cons d r => rw [tot]; simp
theorem tot_zero {c r cw} (h1 : c ≠ 8205) (h2 : c ≠ 65039) (h3 : wid c = 0) : tot (c :: r) cw = tot r cw := by
  cases r with
  | nil => simp [tot, h1, h2, h3]
  | cons d r => rw [tot]; simp [h1, h2, h3]
theorem tot_wide {c r cw} (h1 : c ≠ 8205) (h2 : c ≠ 65039) (h3 : wid c ≠ 0) : tot (c :: r) cw = wid c + tot r (n2w c) := by
  cases r with
  | nil => simp [tot, h1, h2]
  | cons d r => rw [tot]; simp [h1, h2, h3]
end Mine
end
section
open PySem
namespace Mine
theorem wid_le (c : Nat) : wid c ≤ 2 := by unfold wid; (repeat' split) <;> omega
theorem n2w_zero {c : Nat} (h : wid c = 0) : n2w c = false := by
  cases e : n2w c with
  | false => rfl
  | true =>
    unfold n2w at e
    simp only [Bool.or_eq_true, beq_iff_eq] at e
    rcases e with rfl | rfl <;> exact absurd h (by decide)
end Mine
end
section
open PySem
namespace Mine
theorem occ_sign (l : List Nat) (c : Nat) : (!(Builtin.Str.occurrences (⟨l.toArray⟩ : Str) (⟨#[c]⟩ : Str) 0 (⟨l.toArray⟩ : Str).length 1).isEmpty) = l.contains c := by
  rw [Bool.eq_iff_iff, StrLaws.found_iff]
  have e : (⟨l.toArray⟩ : Str).length = l.length := by simp [Str.length]
  have e1 : (⟨#[c]⟩ : Str).length = 1 := rfl
  rw [e, e1]
  constructor
  · rintro ⟨i, hi, hs⟩
    unfold Builtin.Str.subAt at hs
    rw [e1] at hs
    have h2 := beq_iff_eq.mp hs
    have h3 := congrArg Array.toList h2
    simp only [Array.toList_extract, List.extract_eq_drop_take] at h3
    have h4 : c ∈ (List.take (i + 1 - i) (List.drop i l)) := by
      have : (List.take (i + 1 - i) (List.drop i l)) = [c] := by simpa using h3
      rw [this]; exact List.mem_singleton.mpr rfl
    simpa using List.mem_of_mem_drop (List.mem_of_mem_take h4)
  · intro h
    have hm : c ∈ l := by simpa using h
    obtain ⟨i, hi, he⟩ := List.getElem_of_mem hm
    refine ⟨i, hi, ?_⟩
    unfold Builtin.Str.subAt
    rw [e1, beq_iff_eq]
    apply Array.toList_inj.mp
    simp only [Array.toList_extract, List.extract_eq_drop_take]
    have : i + 1 - i = 1 := by omega
    rw [this]
    show List.take 1 (List.drop i l) = [c]
    rw [List.drop_eq_getElem_cons hi, he]
    rfl
def one (c : Nat) : Bool := c == 97 || c == 35 || c == 32
theorem one_wid {c : Nat} (h : one c = true) : c ≠ 8205 ∧ c ≠ 65039 ∧ wid c = 1 := by
  unfold one at h
  simp only [Bool.or_eq_true, beq_iff_eq] at h
  rcases h with (rfl | rfl) | rfl <;> decide
theorem tot_one : ∀ (l : List Nat) (cw : Bool), l.all one = true → tot l cw = l.length
  | [], _, _ => rfl
  | c :: r, cw, h => by
    simp only [List.all_cons, Bool.and_eq_true] at h
    obtain ⟨h1, h2, h3⟩ := one_wid h.1
    rw [tot_wide h1 h2 (by omega), tot_one r _ h.2, h3, List.length_cons]; omega
theorem tot_plain : ∀ (l : List Nat) (cw : Bool), l.contains 8205 = false → l.contains 65039 = false → tot l cw = (l.map wid).sum
  | [], _, _, _ => rfl
  | c :: r, cw, h1, h2 => by
    simp only [List.contains_cons, Bool.or_eq_false_iff, beq_eq_false_iff_ne] at h1 h2
    have a1 : c ≠ 8205 := fun e => h1.1 e.symm
    have a2 : c ≠ 65039 := fun e => h2.1 e.symm
    by_cases hw : wid c = 0
    · rw [tot_zero a1 a2 hw, tot_plain r _ h1.2 h2.2, List.map_cons, List.sum_cons, hw]; omega
    · rw [tot_wide a1 a2 hw, tot_plain r _ h1.2 h2.2, List.map_cons, List.sum_cons]
end Mine
end
section
open PySem
namespace Mine
theorem slice_to {l : List Nat} {j : Nat} (hj : j ≤ l.length) : Txt.slice ⟨l.toArray⟩ none (some (j : Int)) = ⟨(l.take j).toArray⟩ := by
  have h := StrLaws.sliceText_to (x := ⟨l.toArray⟩) (j := (j : Int)) ⟨by omega, by simp; omega⟩
  refine (show Txt.slice ⟨l.toArray⟩ none (some (j : Int)) = _ from h).trans ?_
  congr 2
theorem slice_from {l : List Nat} {i : Nat} (hi : i ≤ l.length) : Txt.slice ⟨l.toArray⟩ (some (i : Int)) none = ⟨(l.drop i).toArray⟩ := by
  have h := StrLaws.sliceText_from (x := ⟨l.toArray⟩) (i := (i : Int)) ⟨by omega, by simp; omega⟩
  refine (show Txt.slice ⟨l.toArray⟩ (some (i : Int)) none = _ from h).trans ?_
  congr 2
  have e2 : ((i : Int)).toNat = i := by omega
  rw [e2]
  exact List.take_of_length_le (by simp)
theorem slice_mid {l : List Nat} {a b : Nat} (hab : a ≤ b) (hb : b ≤ l.length) : Txt.slice ⟨l.toArray⟩ (some (a : Int)) (some (b : Int)) = ⟨((l.drop a).take (b - a)).toArray⟩ :=
  StrLaws.sliceText_nat (⟨l.toArray⟩ : Str) hab (by simp [Str.length]; exact hb)
theorem slice_over {l : List Nat} {a b : Nat} (ha : a ≤ l.length) (hb : l.length ≤ b) : Txt.slice ⟨l.toArray⟩ (some (a : Int)) (some (b : Int)) = ⟨(l.drop a).toArray⟩ := by
  have e : (⟨l.toArray⟩ : Str).length = l.length := by simp [Str.length]
  have e1 : Builtin.Str.strSliceIndices (some (a : Int)) (some (b : Int)) 1 l.length = Builtin.Str.strSliceIndices (some (a : Int)) none 1 l.length := by
    have h1 : ¬ ((b : Int) < 0) := by omega
    have h2 : max (0 : Int) (min (b : Int) (l.length : Int)) = (l.length : Int) := by omega
    simp [Builtin.Str.strSliceIndices, h1, h2]
  rw [← slice_from ha]
  unfold Txt.slice
  rw [e, e1]
end Mine
end
section
open PySem
namespace Mine
/-- induction over what the pieces' recursion does -/
theorem sg_ind {P : List Nat → Prop} (h0 : P []) (h1 : P [8205]) (h2 : ∀ d r, P r → P (8205 :: d :: r)) (h3 : ∀ r, P r → P (65039 :: r)) (h4 : ∀ c r, c ≠ 8205 → c ≠ 65039 → P r → P (c :: r)) : ∀ l, P l := by
  have all : ∀ n l, l.length ≤ n → P l := by
    intro n
    induction n with
    | zero =>
      intro l h
      obtain rfl : l = [] := List.eq_nil_of_length_eq_zero (by omega)
      exact h0
    | succ n ih =>
      intro l h
      cases l with
      | nil => exact h0
      | cons c r =>
        have hr : r.length ≤ n := by simp at h; omega
        by_cases e1 : c = 8205
        · subst e1
          cases r with
          | nil => exact h1
          | cons d r => exact h2 d r (ih r (by simp at hr; omega))
        · by_cases e2 : c = 65039
          · subst e2; exact h3 r (ih r hr)
          · exact h4 c r e1 e2 (ih r hr)
  exact fun l => all _ l (Nat.le_refl _)
def size (p : Span) : Nat := p.2.2
theorem go_sum : ∀ (r : List Nat) (i st sz : Nat) (cw : Bool), ((go i r st sz cw).map size).sum = sz + tot r cw := by
  refine sg_ind ?_ ?_ ?_ ?_ ?_
  · intro i st sz cw; simp [go, tot, size]
  · intro i st sz cw; rw [go_zwj_nil, tot_zwj_nil]; simp [size]
  · intro d r ih i st sz cw; rw [go_zwj, tot_zwj, ih]
  · intro r ih i st sz cw; rw [go_vs, tot_vs, ih]; omega
  · intro c r e1 e2 ih i st sz cw
    by_cases hw : wid c = 0
    · rw [go_zero e1 e2 hw, tot_zero e1 e2 hw, ih]
    · rw [go_wide e1 e2 hw, tot_wide e1 e2 hw, List.map_cons, List.sum_cons, ih]; rfl
theorem pcs_sum (l : List Nat) : ((pcs l).map size).sum = total l := by
  cases l with
  | nil => rfl
  | cons c r => exact go_sum r 1 0 (wid c) (n2w c)
theorem go_bound : ∀ (r : List Nat) (i st sz : Nat) (cw : Bool), st ≤ i → ∀ p ∈ go i r st sz cw, st ≤ p.1 ∧ p.1 ≤ p.2.1 ∧ p.2.1 ≤ i + r.length := by
  refine sg_ind ?_ ?_ ?_ ?_ ?_
  · intro i st sz cw h p hp
    obtain rfl := List.mem_singleton.mp hp
    simp; omega
  · intro i st sz cw h p hp
    rw [go_zwj_nil] at hp
    obtain rfl := List.mem_singleton.mp hp
    simp; omega
  · intro d r ih i st sz cw h p hp
    rw [go_zwj] at hp
    have := ih (i + 2) st sz cw (by omega) p hp
    simp; omega
  · intro r ih i st sz cw h p hp
    rw [go_vs] at hp
    have := ih (i + 1) st _ _ (by omega) p hp
    simp; omega
  · intro c r e1 e2 ih i st sz cw h p hp
    by_cases hw : wid c = 0
    · rw [go_zero e1 e2 hw] at hp
      have := ih (i + 1) st _ _ (by omega) p hp
      simp; omega
    · rw [go_wide e1 e2 hw] at hp
      rcases List.mem_cons.mp hp with rfl | hp
      · simp; omega
      · have := ih (i + 1) i _ _ (by omega) p hp
        simp; omega
theorem pcs_bound {l : List Nat} {p : Span} (hp : p ∈ pcs l) : p.1 ≤ p.2.1 ∧ p.2.1 ≤ l.length := by
  cases l with
  | nil => exact nomatch hp
  | cons c r =>
    have := go_bound r 1 0 _ _ (by omega) p hp
    simp; omega
theorem le_sum_mem : ∀ {xs : List Nat} {x : Nat}, x ∈ xs → x ≤ xs.sum
  | y :: r, _, .head _ => by simp
  | y :: r, x, .tail _ h => by have := le_sum_mem h; simp; omega
theorem size_le {l : List Nat} {p : Span} (hp : p ∈ pcs l) : size p ≤ total l := by
  rw [← pcs_sum l]; exact le_sum_mem (List.mem_map_of_mem hp)
/-- the width of the first k pieces -/
def Psum (sps : List Span) (k : Nat) : Nat := ((sps.map size).take k).sum
theorem Psum_zero (sps : List Span) : Psum sps 0 = 0 := rfl
theorem Psum_succ {sps : List Span} {k : Nat} {p : Span} (h : sps[k]? = some p) : Psum sps (k + 1) = Psum sps k + size p := by
  unfold Psum
  have h2 : (sps.map size)[k]? = some (size p) := by rw [List.getElem?_map, h]; rfl
  rw [List.take_add_one, h2]
  simp
theorem Psum_all (sps : List Span) {k : Nat} (h : sps.length ≤ k) : Psum sps k = (sps.map size).sum := by
  unfold Psum
  rw [List.take_of_length_le (by rw [List.length_map]; exact h)]
theorem Psum_le_succ (sps : List Span) (k : Nat) : Psum sps k ≤ Psum sps (k + 1) := by
  unfold Psum
  rw [List.take_add_one]
  simp
theorem Psum_mono (sps : List Span) {j k : Nat} (h : j ≤ k) : Psum sps j ≤ Psum sps k := by
  obtain ⟨d, rfl⟩ := Nat.le.dest h
  clear h
  induction d with
  | zero => exact Nat.le_refl _
  | succ d ih => exact Nat.le_trans ih (Psum_le_succ sps (j + d))
/-- where a text is split at a width -/
def IsSplit (l : List Nat) (sps : List Span) (cell : Nat) (a b : List Nat) : Prop :=
  (∃ k, k ≤ sps.length ∧ Psum sps k = cell ∧ ((k = sps.length ∧ a = l ∧ b = []) ∨ ∃ p, sps[k]? = some p ∧ a = l.take p.1 ∧ b = l.drop p.1)) ∨
  (∃ k p, sps[k]? = some p ∧ Psum sps k < cell ∧ cell < Psum sps k + size p ∧ a = l.take p.1 ++ [32] ∧ b = 32 :: l.drop p.2.1)
end Mine
end
section
open PySem
namespace Mine
/-- what the law's own reading of a text finds: places of beginnings, places of selectors -/
def scan : Nat → Bool → List Nat → List Nat × List Nat
  | _, _, [] => ([], [])
  | i, true, _ :: r => scan (i + 1) false r
  | i, false, c :: r => ((if i = 0 ∨ 0 < wid c then i :: (scan (i + 1) (c == 8205) r).1 else (scan (i + 1) (c == 8205) r).1), (if c = 65039 then i :: (scan (i + 1) (c == 8205) r).2 else (scan (i + 1) (c == 8205) r).2))
theorem scan_ge : ∀ (r : List Nat) (i : Nat) (b : Bool), (∀ x ∈ (scan i b r).1, i ≤ x ∧ x < i + r.length) ∧ (∀ x ∈ (scan i b r).2, i ≤ x ∧ x < i + r.length)
  | [], i, b => by cases b <;> simp [scan]
  | c :: r, i, true => by
    have h := scan_ge r (i + 1) false
    simp only [scan, List.length_cons]
    exact ⟨fun x hx => by have := h.1 x hx; omega, fun x hx => by have := h.2 x hx; omega⟩
  | c :: r, i, false => by
    have h := scan_ge r (i + 1) (c == 8205)
    simp only [scan, List.length_cons]
    refine ⟨fun x hx => ?_, fun x hx => ?_⟩
    · split at hx
      · rcases List.mem_cons.mp hx with rfl | hx
        · omega
        · have := h.1 x hx; omega
      · have := h.1 x hx; omega
    · split at hx
      · rcases List.mem_cons.mp hx with rfl | hx
        · omega
        · have := h.2 x hx; omega
      · have := h.2 x hx; omega
/-- the size of the law's piece -/
def szl (l S : List Nat) (b e : Nat) : Nat := wid (l.getD b 0) + if n2w (l.getD b 0) && S.any (fun p => decide (b < p) && decide (p < e)) then 1 else 0
def spansR (f : Nat → Nat → Nat) : Nat → List Nat → Nat → List Span
  | st, [], n => [(st, n, f st n)]
  | st, b :: B, n => (st, b, f st b) :: spansR f b B n
theorem spansR_congr {f g : Nat → Nat → Nat} {i : Nat} (h : ∀ b e, i ≤ b → f b e = g b e) : ∀ (B : List Nat) (st n : Nat), i ≤ st → (∀ x ∈ B, i ≤ x) → spansR f st B n = spansR g st B n
  | [], st, n, h1, _ => by simp only [spansR, h _ _ h1]
  | b :: B, st, n, h1, h2 => by simp only [spansR, h _ _ h1, spansR_congr h B b n (h2 _ (.head _)) fun x hx => h2 x (.tail _ hx)]
/-- the first piece is open -/
def spansO (f : Nat → Nat → Nat) (g : Nat → Nat) (st : Nat) : List Nat → Nat → List Span
  | [], n => [(st, n, g n)]
  | b :: B, n => (st, b, g b) :: spansR f b B n
theorem szl_skip {l S : List Nat} {i b e : Nat} (h : i < b) : szl l (i :: S) b e = szl l S b e := by
  have : ¬ b < i := by omega
  simp [szl, this]
theorem go_scan (l : List Nat) : ∀ (r : List Nat) (i st sz : Nat) (cw : Bool), 1 ≤ i → l.drop i = r →
    go i r st sz cw = spansO (szl l (scan i false r).2) (fun e => sz + if cw && (scan i false r).2.any (fun p => decide (p < e)) then 1 else 0) st (scan i false r).1 (i + r.length) := by
  refine sg_ind ?_ ?_ ?_ ?_ ?_
  · intro i st sz cw hi hd; simp [go, scan, spansO]
  · intro i st sz cw hi hd
    rw [go_zwj_nil]
    have h0 : i ≠ 0 := by omega
    have hw : wid 8205 = 0 := by decide
    simp [scan, h0, hw, spansO]
  · intro d r ih i st sz cw hi hd
    rw [go_zwj]
    have h0 : i ≠ 0 := by omega
    have hw : wid 8205 = 0 := by decide
    have e : scan i false (8205 :: d :: r) = scan (i + 2) false r := by simp [scan, h0, hw]
    have e2 : i + (8205 :: d :: r).length = i + 2 + r.length := by simp; omega
    have e3 : l.drop (i + 2) = r := by rw [← List.drop_drop, hd]; rfl
    rw [e, e2]
    exact ih (i + 2) st sz cw (by omega) e3
  · intro r ih i st sz cw hi hd
    rw [go_vs]
    have h0 : i ≠ 0 := by omega
    have hw : wid 65039 = 0 := by decide
    have e : scan i false (65039 :: r) = ((scan (i + 1) false r).1, i :: (scan (i + 1) false r).2) := by simp [scan, h0, hw]
    have e2 : i + (65039 :: r).length = i + 1 + r.length := by simp; omega
    have e3 : l.drop (i + 1) = r := by rw [← List.drop_drop, hd]; rfl
    rw [e, e2, ih (i + 1) st _ false (by omega) e3]
    have hB := (scan_ge r (i + 1) false).1
    cases hc : (scan (i + 1) false r).1 with
    | nil =>
      have : i < i + 1 + r.length := by omega
      simp [spansO, this]
    | cons b B =>
      rw [hc] at hB
      have h1 := hB b (.head _)
      have : i < b := by omega
      simp only [spansO, Bool.false_and, Bool.false_eq_true, if_false, Nat.add_zero]
      refine congr (congrArg List.cons ?_) ?_
      · simp [this]
      · exact spansR_congr (i := i + 1) (fun b e hb => (szl_skip (by omega)).symm) B b _ (by omega) fun x hx => (hB x (.tail _ hx)).1
  · intro c r h1 h2 ih i st sz cw hi hd
    have h0 : i ≠ 0 := by omega
    have hb8 : (c == 8205) = false := by simpa using h1
    have e2 : i + (c :: r).length = i + 1 + r.length := by simp; omega
    have e3 : l.drop (i + 1) = r := by rw [← List.drop_drop, hd]; rfl
    by_cases hw : wid c = 0
    · have e : scan i false (c :: r) = scan (i + 1) false r := by simp [scan, h0, hw, h2, hb8]
      rw [go_zero h1 h2 hw, e, e2]
      exact ih (i + 1) st sz cw (by omega) e3
    · have hw' : 0 < wid c := by omega
      have e : scan i false (c :: r) = (i :: (scan (i + 1) false r).1, (scan (i + 1) false r).2) := by simp [scan, h0, hw', h2, hb8]
      rw [go_wide h1 h2 hw, e, e2, ih (i + 1) i (wid c) (n2w c) (by omega) e3]
      have hB := scan_ge r (i + 1) false
      generalize scan (i + 1) false r = q at hB
      obtain ⟨B, S⟩ := q
      obtain ⟨hB, hS⟩ := hB
      dsimp only at hB hS ⊢
      have hli : l.getD i 0 = c := by
        have h9 : l[i]? = some c := by
          have := congrArg List.head? hd
          rwa [List.head?_drop] at this
        simp [List.getD_eq_getElem?_getD, h9]
      have hf : ∀ e, szl l S i e = wid c + if n2w c && S.any (fun p => decide (p < e)) then 1 else 0 := by
        intro e
        unfold szl
        rw [hli]
        have : S.any (fun p => decide (i < p) && decide (p < e)) = S.any (fun p => decide (p < e)) := by
          apply Bool.eq_iff_iff.mpr
          simp only [List.any_eq_true, Bool.and_eq_true, decide_eq_true_eq]
          constructor
          · rintro ⟨x, hx, h3, h4⟩; exact ⟨x, hx, h4⟩
          · rintro ⟨x, hx, h4⟩; exact ⟨x, hx, by have := hS x hx; omega, h4⟩
        rw [this]
      have hany : S.any (fun p => decide (p < i)) = false := by
        rw [Bool.eq_false_iff]
        intro h
        simp only [List.any_eq_true, decide_eq_true_eq] at h
        obtain ⟨x, hx, h3⟩ := h
        have := hS x hx
        omega
      simp only [spansO, hany, Bool.and_false, Bool.false_eq_true, if_false, Nat.add_zero]
      cases B with
      | nil => simp only [spansO, spansR, hf]
      | cons b B => simp only [spansO, spansR, hf]
theorem pcs_scan {c : Nat} {r : List Nat} (h : c ≠ 8205) : pcs (c :: r) = spansR (szl (c :: r) (scan 0 false (c :: r)).2) 0 (scan 0 false (c :: r)).1.tail (c :: r).length := by
  have hb8 : (c == 8205) = false := by simpa using h
  show go 1 r 0 (wid c) (n2w c) = _
  rw [go_scan (c :: r) r 1 0 (wid c) (n2w c) (Nat.le_refl _) rfl]
  have hB := scan_ge r 1 false
  have e : scan 0 false (c :: r) = (0 :: (scan 1 false r).1, if c = 65039 then 0 :: (scan 1 false r).2 else (scan 1 false r).2) := by simp [scan, hb8]
  rw [e]
  generalize scan 1 false r = q at hB
  obtain ⟨B, S⟩ := q
  obtain ⟨hB, hS⟩ := hB
  dsimp only [List.tail_cons] at hB hS ⊢
  have hf : ∀ e, szl (c :: r) (if c = 65039 then 0 :: S else S) 0 e = wid c + if n2w c && S.any (fun p => decide (p < e)) then 1 else 0 := by
    intro e
    unfold szl
    have : (if c = 65039 then 0 :: S else S).any (fun p => decide (0 < p) && decide (p < e)) = S.any (fun p => decide (p < e)) := by
      apply Bool.eq_iff_iff.mpr
      simp only [List.any_eq_true, Bool.and_eq_true, decide_eq_true_eq]
      constructor
      · rintro ⟨x, hx, h3, h4⟩
        split at hx
        · rcases List.mem_cons.mp hx with rfl | hx
          · omega
          · exact ⟨x, hx, h4⟩
        · exact ⟨x, hx, h4⟩
      · rintro ⟨x, hx, h4⟩
        refine ⟨x, ?_, by have := hS x hx; omega, h4⟩
        split
        · exact .tail _ hx
        · exact hx
    rw [this]
    simp
  have hk : ∀ b e, 1 ≤ b → szl (c :: r) S b e = szl (c :: r) (if c = 65039 then 0 :: S else S) b e := by
    intro b e hb
    split
    · exact (szl_skip (by omega)).symm
    · rfl
  have e2 : 1 + r.length = (c :: r).length := by simp; omega
  rw [e2]
  cases B with
  | nil => simp only [spansO, spansR, hf]
  | cons b B =>
    simp only [spansO, spansR, hf]
    exact congrArg _ (spansR_congr hk B b _ (hB b (.head _)).1 fun x hx => (hB x (.tail _ hx)).1)
/-- the spans by their bounds -/
theorem spansR_zip (f : Nat → Nat → Nat) : ∀ (B : List Nat) (st n : Nat), spansR f st B n = List.zipWith (fun b e => (b, e, f b e)) (st :: B) (B ++ [n])
  | [], st, n => rfl
  | b :: B, st, n => by simp only [spansR, spansR_zip f B b n]; rfl
end Mine
end
section
open PySem
namespace Mine
def Fresh (x : List Nat) : Prop := x = [] ∨ ∃ c r, x = c :: r ∧ c ≠ 8205 ∧ c ≠ 65039 ∧ wid c ≠ 0
theorem Fresh.tot {x : List Nat} (h : Fresh x) (cw : Bool) : tot x cw = tot x false := by
  rcases h with rfl | ⟨c, r, rfl, h1, h2, h3⟩
  · rfl
  · rw [tot_wide h1 h2 h3, tot_wide h1 h2 h3]
theorem go_head : ∀ (r : List Nat) (i st sz : Nat) (cw : Bool), ∃ e z q, go i r st sz cw = (st, e, z) :: q := by
  refine sg_ind ?_ ?_ ?_ ?_ ?_
  · intro i st sz cw; exact ⟨i, sz, [], by simp [go]⟩
  · intro i st sz cw; exact ⟨_, _, _, go_zwj_nil⟩
  · intro d r ih i st sz cw; rw [go_zwj]; exact ih _ _ _ _
  · intro r ih i st sz cw; rw [go_vs]; exact ih _ _ _ _
  · intro c r e1 e2 ih i st sz cw
    by_cases hw : wid c = 0
    · rw [go_zero e1 e2 hw]; exact ih _ _ _ _
    · rw [go_wide e1 e2 hw]; exact ⟨_, _, _, rfl⟩
theorem Psum_cons (q : Span) (qs : List Span) (k : Nat) : Psum (q :: qs) (k + 1) = size q + Psum qs k := by
  unfold Psum; simp
theorem go_pre : ∀ (r : List Nat) (i st sz : Nat) (cw : Bool) (k : Nat) (p : Span), (go i r st sz cw)[k + 1]? = some p →
    ∃ r1 r2, r = r1 ++ r2 ∧ p.1 = i + r1.length ∧ (∃ c t, r2 = c :: t ∧ c ≠ 8205 ∧ c ≠ 65039 ∧ wid c ≠ 0) ∧ ∀ x, Fresh x → tot (r1 ++ x) cw + sz = Psum (go i r st sz cw) (k + 1) + tot x false := by
  refine sg_ind ?_ ?_ ?_ ?_ ?_
  · intro i st sz cw k p h; simp [go] at h
  · intro i st sz cw k p h; simp [go_zwj_nil] at h
  · intro d r ih i st sz cw k p h
    rw [go_zwj] at h ⊢
    obtain ⟨r1, r2, e, e1, hc, hx⟩ := ih _ _ _ _ _ _ h
    refine ⟨8205 :: d :: r1, r2, by rw [e]; rfl, by rw [e1]; simp; omega, hc, fun x hf => ?_⟩
    show tot (8205 :: d :: (r1 ++ x)) cw + sz = _
    rw [tot_zwj]
    exact hx x hf
  · intro r ih i st sz cw k p h
    rw [go_vs] at h ⊢
    obtain ⟨r1, r2, e, e1, hc, hx⟩ := ih _ _ _ _ _ _ h
    refine ⟨65039 :: r1, r2, by rw [e]; rfl, by rw [e1]; simp; omega, hc, fun x hf => ?_⟩
    show tot (65039 :: (r1 ++ x)) cw + sz = _
    rw [tot_vs, ← hx x hf]
    omega
  · intro c r h1 h2 ih i st sz cw k p h
    by_cases hw : wid c = 0
    · rw [go_zero h1 h2 hw] at h ⊢
      obtain ⟨r1, r2, e, e1, hc, hx⟩ := ih _ _ _ _ _ _ h
      refine ⟨c :: r1, r2, by rw [e]; rfl, by rw [e1]; simp; omega, hc, fun x hf => ?_⟩
      show tot (c :: (r1 ++ x)) cw + sz = _
      rw [tot_zero h1 h2 hw]
      exact hx x hf
    · rw [go_wide h1 h2 hw] at h ⊢
      rw [List.getElem?_cons_succ] at h
      cases k with
      | zero =>
        obtain ⟨e, z, q, eq⟩ := go_head r (i + 1) i (wid c) (n2w c)
        rw [eq] at h
        obtain rfl : (i, e, z) = p := by simpa using h
        refine ⟨[], c :: r, rfl, rfl, ⟨c, r, rfl, h1, h2, hw⟩, fun x hf => ?_⟩
        show tot x cw + sz = _
        rw [Psum_cons, hf.tot cw, Psum_zero]
        simp only [size]
        omega
      | succ k =>
        obtain ⟨r1, r2, e, e1, hc, hx⟩ := ih _ _ _ _ _ _ h
        refine ⟨c :: r1, r2, by rw [e]; rfl, by rw [e1]; simp; omega, hc, fun x hf => ?_⟩
        show tot (c :: (r1 ++ x)) cw + sz = _
        rw [tot_wide h1 h2 hw, Psum_cons]
        have := hx x hf
        simp only [size]
        omega
theorem tot_first {c : Nat} (h : c ≠ 8205) (y : List Nat) : tot (c :: y) false = wid c + tot y (n2w c) := by
  by_cases h2 : c = 65039
  · subst h2
    rw [tot_vs]
    rfl
  · by_cases hw : wid c = 0
    · rw [tot_zero h h2 hw, n2w_zero hw, hw]; omega
    · rw [tot_wide h h2 hw]
theorem tot_total {l : List Nat} (h : ∀ c r, l = c :: r → c ≠ 8205) : tot l false = total l := by
  cases l with
  | nil => rfl
  | cons c r => exact tot_first (h c r rfl) r
/-- contiguity -/
theorem go_next : ∀ (r : List Nat) (i st sz : Nat) (cw : Bool), st < i → ∀ (k : Nat) (p : Span), (go i r st sz cw)[k]? = some p →
    p.1 < p.2.1 ∧ (∀ p', (go i r st sz cw)[k + 1]? = some p' → p'.1 = p.2.1) ∧ ((go i r st sz cw)[k + 1]? = none → p.2.1 = i + r.length) := by
  refine sg_ind ?_ ?_ ?_ ?_ ?_
  · intro i st sz cw hi k p h
    cases k with
    | zero =>
      obtain rfl : (st, i, sz) = p := by simpa [go] using h
      exact ⟨hi, fun p' h => by simp [go] at h, fun _ => rfl⟩
    | succ k => simp [go] at h
  · intro i st sz cw hi k p h
    rw [go_zwj_nil] at h ⊢
    cases k with
    | zero =>
      obtain rfl : (st, i + 1, sz) = p := by simpa using h
      exact ⟨Nat.lt_succ_of_lt hi, fun p' h => by simp at h, fun _ => rfl⟩
    | succ k => simp at h
  · intro d r ih i st sz cw hi k p h
    rw [go_zwj] at h ⊢
    obtain ⟨a, b, c⟩ := ih _ _ _ _ (by omega) k p h
    exact ⟨a, b, fun h => by rw [c h]; simp; omega⟩
  · intro r ih i st sz cw hi k p h
    rw [go_vs] at h ⊢
    obtain ⟨a, b, c⟩ := ih _ _ _ _ (by omega) k p h
    exact ⟨a, b, fun h => by rw [c h]; simp; omega⟩
  · intro c r h1 h2 ih i st sz cw hi k p h
    by_cases hw : wid c = 0
    · rw [go_zero h1 h2 hw] at h ⊢
      obtain ⟨a, b, c⟩ := ih _ _ _ _ (by omega) k p h
      exact ⟨a, b, fun h => by rw [c h]; simp; omega⟩
    · rw [go_wide h1 h2 hw] at h ⊢
      cases k with
      | zero =>
        obtain rfl : (st, i, sz) = p := by simpa using h
        obtain ⟨e, z, q, eq⟩ := go_head r (i + 1) i (wid c) (n2w c)
        refine ⟨hi, fun p' h => ?_, fun h => ?_⟩
        · rw [List.getElem?_cons_succ, eq] at h
          obtain rfl : (i, e, z) = p' := by simpa using h
          rfl
        · rw [List.getElem?_cons_succ, eq] at h
          simp at h
      | succ k =>
        rw [List.getElem?_cons_succ] at h
        obtain ⟨a, b, c⟩ := ih _ _ _ _ (by omega) k p h
        exact ⟨a, fun p' h => b p' (by rwa [List.getElem?_cons_succ] at h), fun h => by rw [List.getElem?_cons_succ] at h; rw [c h]; simp; omega⟩
theorem go_sizes : ∀ (r : List Nat) (i st sz : Nat) (cw : Bool), sz ≤ 2 → (cw = true → sz = 1) → ∀ (k : Nat) (p : Span), (go i r st sz cw)[k]? = some p → size p ≤ 2 ∧ (1 ≤ k ∨ 1 ≤ sz → 1 ≤ size p) := by
  refine sg_ind ?_ ?_ ?_ ?_ ?_
  · intro i st sz cw h0 h9 k p h
    cases k with
    | zero =>
      obtain rfl : (st, i, sz) = p := by simpa [go] using h
      simp only [size]
      omega
    | succ k => simp [go] at h
  · intro i st sz cw h0 h9 k p h
    rw [go_zwj_nil] at h
    cases k with
    | zero =>
      obtain rfl : (st, i + 1, sz) = p := by simpa using h
      simp only [size]
      omega
    | succ k => simp at h
  · intro d r ih i st sz cw h0 h9 k p h
    rw [go_zwj] at h
    exact ih _ _ _ _ h0 h9 _ _ h
  · intro r ih i st sz cw h0 h9 k p h
    rw [go_vs] at h
    have hz : (sz + if cw = true then 1 else 0) ≤ 2 := by
      cases cw with
      | true => have := h9 rfl; subst this; decide
      | false => simpa using h0
    have := ih (i + 1) st _ false hz (fun h => nomatch h) _ _ h
    refine ⟨this.1, fun h => this.2 ?_⟩
    omega
  · intro c r h1 h2 ih i st sz cw h0 h9 k p h
    by_cases hw : wid c = 0
    · rw [go_zero h1 h2 hw] at h
      exact ih _ _ _ _ h0 h9 _ _ h
    · rw [go_wide h1 h2 hw] at h
      cases k with
      | zero =>
        obtain rfl : (st, i, sz) = p := by simpa using h
        simp only [size]
        omega
      | succ k =>
        rw [List.getElem?_cons_succ] at h
        have := ih _ _ _ _ (wid_le c) (fun h => by
          unfold n2w at h
          simp only [Bool.or_eq_true, beq_iff_eq] at h
          rcases h with rfl | rfl <;> decide) _ _ h
        exact ⟨this.1, fun _ => this.2 (by omega)⟩
section
variable {l : List Nat} {k : Nat} {p : Span}
theorem pcs_sizes (h : (pcs l)[k]? = some p) : size p ≤ 2 ∧ (1 ≤ k → 1 ≤ size p) := by
  cases l with
  | nil => simp [pcs] at h
  | cons c r =>
    have := go_sizes r 1 0 (wid c) (n2w c) (wid_le c) (fun h => by
          unfold n2w at h
          simp only [Bool.or_eq_true, beq_iff_eq] at h
          rcases h with rfl | rfl <;> decide) _ _ h
    exact ⟨this.1, fun h => this.2 (.inl h)⟩
theorem pcs_next (h : (pcs l)[k]? = some p) : p.1 < p.2.1 ∧ (∀ p', (pcs l)[k + 1]? = some p' → p'.1 = p.2.1) ∧ ((pcs l)[k + 1]? = none → p.2.1 = l.length) := by
  cases l with
  | nil => simp [pcs] at h
  | cons c r =>
    have := go_next r 1 0 (wid c) (n2w c) (by omega) _ _ h
    refine ⟨this.1, this.2.1, fun h => ?_⟩
    rw [this.2.2 h]; simp; omega
theorem pcs_zero (h : (pcs l)[0]? = some p) : p.1 = 0 := by
  cases l with
  | nil => simp [pcs] at h
  | cons c r =>
    obtain ⟨e, z, q, eq⟩ := go_head r 1 0 (wid c) (n2w c)
    have h' : (go 1 r 0 (wid c) (n2w c))[0]? = some p := h
    rw [eq] at h'
    obtain rfl : (0, e, z) = p := by simpa using h'
    rfl
/-- what stands ahead of a piece -/
theorem pcs_pre (hl : ∀ c r, l = c :: r → c ≠ 8205) (h : (pcs l)[k]? = some p) : (1 ≤ k → Fresh (l.drop p.1) ∧ ∃ c t, l.drop p.1 = c :: t ∧ c ≠ 8205 ∧ c ≠ 65039 ∧ wid c ≠ 0) ∧ ∀ x, Fresh x ∨ k = 0 → tot (l.take p.1 ++ x) false = Psum (pcs l) k + tot x false := by
  cases k with
  | zero =>
    refine ⟨fun h => by omega, fun x _ => ?_⟩
    rw [pcs_zero h, Psum_zero]
    simp
  | succ k =>
    cases l with
    | nil => simp [pcs] at h
    | cons c r =>
      obtain ⟨r1, r2, e, e1, hc, hx⟩ := go_pre r 1 0 (wid c) (n2w c) k p h
      have e2 : p.1 = r1.length + 1 := by omega
      have e3 : (c :: r).drop p.1 = r2 := by rw [e2, List.drop_succ_cons, e]; simp
      have e4 : (c :: r).take p.1 = c :: r1 := by rw [e2, List.take_succ_cons, e]; simp
      refine ⟨fun _ => by rw [e3]; exact ⟨.inr (let ⟨c, t, h⟩ := hc; ⟨c, t, h⟩), hc⟩, fun x hf => ?_⟩
      have hf : Fresh x := hf.resolve_right (by omega)
      rw [e4]
      show tot (c :: (r1 ++ x)) false = _
      rw [tot_first (hl c r rfl)]
      have := hx x hf
      show _ = Psum (go 1 r 0 (wid c) (n2w c)) (k + 1) + _
      omega
theorem pcs_take (hl : ∀ c r, l = c :: r → c ≠ 8205) (h : (pcs l)[k]? = some p) : tot (l.take p.1) false = Psum (pcs l) k := by
  have := (pcs_pre hl h).2 [] (.inl (.inl rfl))
  rwa [List.append_nil] at this
theorem pcs_drop (hl : ∀ c r, l = c :: r → c ≠ 8205) (h : (pcs l)[k]? = some p) : total l = Psum (pcs l) k + tot (l.drop p.1) false := by
  rw [← tot_total hl]
  have h2 := pcs_pre hl h
  have := h2.2 (l.drop p.1) (by
    by_cases hk : 1 ≤ k
    · exact .inl (h2.1 hk).1
    · exact .inr (by omega))
  rwa [List.take_append_drop] at this
theorem Psum_top (l : List Nat) {k : Nat} (h : (pcs l).length ≤ k) : Psum (pcs l) k = total l := by rw [Psum_all _ h, pcs_sum]
/-- what stands behind a piece's end -/
theorem pcs_end (hl : ∀ c r, l = c :: r → c ≠ 8205) (h : (pcs l)[k]? = some p) : tot (l.take p.2.1) false = Psum (pcs l) (k + 1) ∧ total l = Psum (pcs l) (k + 1) + tot (l.drop p.2.1) false ∧ p.2.1 ≤ l.length := by
  have hb := pcs_bound (List.mem_of_getElem? h)
  cases h2 : (pcs l)[k + 1]? with
  | none =>
    have e := (pcs_next h).2.2 h2
    have hk : (pcs l).length ≤ k + 1 := by simpa using h2
    rw [e, List.take_length, List.drop_length, Psum_top l hk, tot_total hl]
    exact ⟨rfl, rfl, Nat.le_refl _⟩
  | some p' =>
    have e := (pcs_next h).2.1 _ h2
    rw [← e]
    exact ⟨pcs_take hl h2, pcs_drop hl h2, by rw [e]; exact hb.2⟩
theorem take_split {a b : Nat} (h : a ≤ b) : l.take b = l.take a ++ (l.drop a).take (b - a) := by
  obtain ⟨d, rfl⟩ := Nat.le.dest h
  rw [List.take_add]
  congr 2
  omega
theorem pcs_part (hl : ∀ c r, l = c :: r → c ≠ 8205) (h : (pcs l)[k]? = some p) : tot ((l.drop p.1).take (p.2.1 - p.1)) false = size p := by
  have hn := (pcs_next h).1
  have he := (pcs_end hl h).1
  rw [take_split (Nat.le_of_lt hn), Psum_succ h] at he
  have h2 := pcs_pre hl h
  have := h2.2 ((l.drop p.1).take (p.2.1 - p.1)) (by
    by_cases hk : 1 ≤ k
    · obtain ⟨c, t, e, x⟩ := (h2.1 hk).2
      refine .inl (.inr ⟨c, t.take (p.2.1 - p.1 - 1), ?_, x⟩)
      rw [e]
      obtain ⟨d, hd⟩ : ∃ d, p.2.1 - p.1 = d + 1 := ⟨p.2.1 - p.1 - 1, by omega⟩
      rw [hd]
      simp
    · exact .inr (by omega))
  omega
end
theorem isSplit_wid {l : List Nat} (hl : ∀ c r, l = c :: r → c ≠ 8205) {cell : Nat} {a b : List Nat} (h : IsSplit l (pcs l) cell a b) : tot a false = cell ∧ tot b false = total l - cell := by
  rcases h with ⟨k, hk, hp, ⟨rfl, rfl, rfl⟩ | ⟨p, hq, rfl, rfl⟩⟩ | ⟨k, p, hq, h1, h2, rfl, rfl⟩
  · rw [Psum_top a (Nat.le_refl _)] at hp
    rw [tot_total hl]
    subst hp
    exact ⟨rfl, by simp [tot]⟩
  · have := pcs_take hl hq
    have := pcs_drop hl hq
    omega
  · have hs := pcs_sizes hq
    have h3 := (pcs_pre hl hq).2 [32] (.inl (.inr ⟨32, [], rfl, by decide, by decide, by decide⟩))
    have h4 : tot [32] false = 1 := by decide
    have h5 := (pcs_end hl hq).2.1
    have h6 : tot (32 :: l.drop p.2.1) false = 1 + tot (l.drop p.2.1) false := tot_wide (by decide) (by decide) (by decide)
    have h7 := Psum_succ hq
    omega
theorem Psum_strict {l : List Nat} {j k : Nat} (h : j < k) (hk : k ≤ (pcs l).length) (hj : 1 ≤ j) : Psum (pcs l) j < Psum (pcs l) k := by
  have hjl : j < (pcs l).length := by omega
  have hq : (pcs l)[j]? = some (pcs l)[j] := List.getElem?_eq_getElem hjl
  have h1 := (pcs_sizes hq).2 hj
  have h2 := Psum_succ hq
  have h3 := Psum_mono (pcs l) (show j + 1 ≤ k by omega)
  omega
theorem isSplit_uniq {l : List Nat} {cell : Nat} (hc : 1 ≤ cell) {a b a' b' : List Nat} (h : IsSplit l (pcs l) cell a b) (h' : IsSplit l (pcs l) cell a' b') : a = a' ∧ b = b' := by
  have pos : ∀ {k}, Psum (pcs l) k = cell → 1 ≤ k := fun {k} e => by
    cases k with
    | zero => rw [Psum_zero] at e; omega
    | succ k => omega
  have cross : ∀ {k j p}, Psum (pcs l) k = cell → (pcs l)[j]? = some p → Psum (pcs l) j < cell → cell < Psum (pcs l) j + size p → False := fun {k j p} e hq h1 h2 => by
    rw [← Psum_succ hq] at h2
    by_cases hjk : k ≤ j
    · have := Psum_mono (pcs l) hjk; omega
    · have := Psum_mono (pcs l) (show j + 1 ≤ k by omega); omega
  rcases h with ⟨k, hk, hp, h⟩ | ⟨k, p, hq, h1, h2, rfl, rfl⟩
  · rcases h' with ⟨k', hk', hp', h'⟩ | ⟨k', p', hq', h1', h2', rfl, rfl⟩
    · have e : k = k' := by
        rcases Nat.lt_trichotomy k k' with h | h | h
        · have := Psum_strict h hk' (pos hp); omega
        · exact h
        · have := Psum_strict h hk (pos hp'); omega
      subst e
      rcases h with ⟨e1, rfl, rfl⟩ | ⟨p, hq, rfl, rfl⟩
      · rcases h' with ⟨e1', rfl, rfl⟩ | ⟨p, hq, rfl, rfl⟩
        · exact ⟨rfl, rfl⟩
        · rw [e1, List.getElem?_eq_none (Nat.le_refl _)] at hq; cases hq
      · rcases h' with ⟨e1', rfl, rfl⟩ | ⟨p', hq', rfl, rfl⟩
        · rw [e1', List.getElem?_eq_none (Nat.le_refl _)] at hq; cases hq
        · rw [hq] at hq'
          cases hq'
          exact ⟨rfl, rfl⟩
    · exact (cross hp hq' h1' h2').elim
  · rcases h' with ⟨k', hk', hp', h'⟩ | ⟨k', p', hq', h1', h2', rfl, rfl⟩
    · exact (cross hp' hq h1 h2).elim
    · have e : k = k' := by
        rw [← Psum_succ hq] at h2
        rw [← Psum_succ hq'] at h2'
        rcases Nat.lt_trichotomy k k' with h | h | h
        · have := Psum_mono (pcs l) (show k + 1 ≤ k' by omega); omega
        · exact h
        · have := Psum_mono (pcs l) (show k' + 1 ≤ k by omega); omega
      subst e
      rw [hq] at hq'
      cases hq'
      exact ⟨rfl, rfl⟩
end Mine
end
section
open PySem
namespace Mine
theorem go_one : ∀ (r : List Nat) (i st : Nat) (cw : Bool), r.all one = true → st + 1 = i → go i r st 1 cw = (st, i, 1) :: (List.range' i r.length).map fun k => (k, k + 1, 1)
  | [], i, st, cw, _, _ => rfl
  | c :: r, i, st, cw, h, e => by
    simp only [List.all_cons, Bool.and_eq_true] at h
    obtain ⟨h1, h2, h3⟩ := one_wid h.1
    rw [go_wide h1 h2 (by omega), h3, go_one r (i + 1) i _ h.2 rfl, List.length_cons, List.range'_succ, List.map_cons]
theorem pcs_one {l : List Nat} (h : l.all one = true) : pcs l = (List.range' 0 l.length).map fun k => (k, k + 1, 1) := by
  cases l with
  | nil => rfl
  | cons c r =>
    simp only [List.all_cons, Bool.and_eq_true] at h
    obtain ⟨h1, h2, h3⟩ := one_wid h.1
    show go 1 r 0 (wid c) _ = _
    rw [h3, go_one r 1 0 _ h.2 rfl, List.length_cons, List.range'_succ, List.map_cons]
theorem pcs_one_at {l : List Nat} (h : l.all one = true) {k : Nat} (hk : k < l.length) : (pcs l)[k]? = some (k, k + 1, 1) := by
  rw [pcs_one h, List.getElem?_map, List.getElem?_range' hk]
  simp
theorem pcs_one_len {l : List Nat} (h : l.all one = true) : (pcs l).length = l.length := by rw [pcs_one h]; simp
theorem Psum_one {l : List Nat} (h : l.all one = true) : ∀ {k : Nat}, k ≤ l.length → Psum (pcs l) k = k
  | 0, _ => rfl
  | k + 1, hk => by
    rw [Psum_succ (pcs_one_at h (by omega)), Psum_one h (by omega)]; rfl
theorem total_one {l : List Nat} (h : l.all one = true) : total l = l.length := by
  rw [← Psum_top l (Nat.le_of_eq (pcs_one_len h)), Psum_one h (Nat.le_refl _)]
theorem isSplit_one {l : List Nat} (h : l.all one = true) {cell : Nat} (hc : cell ≤ l.length) : IsSplit l (pcs l) cell (l.take cell) (l.drop cell) := by
  refine .inl ⟨cell, by rw [pcs_one_len h]; exact hc, Psum_one h hc, ?_⟩
  by_cases e : cell = l.length
  · subst e
    exact .inl ⟨(pcs_one_len h).symm, List.take_length, List.drop_length⟩
  · exact .inr ⟨_, pcs_one_at h (by omega), rfl, rfl⟩
/-- a text chopped -/
def part (l : List Nat) (p : Span) : List Nat := (l.drop p.1).take (p.2.1 - p.1)
def chop (l : List Nat) (w : Nat) : List Span → List Nat → Nat → List (List Nat)
  | [], cur, _ => [cur]
  | p :: ps, cur, used => if w < used + size p then cur :: chop l w ps (part l p) (size p) else chop l w ps (cur ++ part l p) (used + size p)
theorem slice_by {l : List Nat} {a w : Nat} (ha : a ≤ l.length) : Txt.slice ⟨l.toArray⟩ (some (a : Int)) (some ((a + w : Nat) : Int)) = ⟨((l.drop a).take w).toArray⟩ := by
  by_cases h : a + w ≤ l.length
  · rw [slice_mid (Nat.le_add_right _ _) h]
    congr 3
    omega
  · rw [slice_over ha (by omega)]
    rw [List.take_of_length_le (by simp; omega)]
def chunks (l : List Nat) (w q m : Nat) : List (List Nat) := (List.range' q m).map fun k => (l.drop (k * w)).take w
theorem drop_cons_at {α} {l : List α} {k : Nat} {x : α} (h : l[k]? = some x) : l.drop k = x :: l.drop (k + 1) := by
  have hk : k < l.length := by
    by_cases hk : k < l.length
    · exact hk
    · rw [List.getElem?_eq_none (by omega)] at h; cases h
  rw [List.drop_eq_getElem_cons hk]
  congr 1
  rw [List.getElem?_eq_getElem hk] at h
  exact Option.some.inj h
theorem chop_one_from {l : List Nat} (h : l.all one = true) {w : Nat} (hw : 1 ≤ w) : ∀ (d k q : Nat), k + d = l.length → q * w < k → k ≤ q * w + w →
    chop l w ((pcs l).drop k) ((l.drop (q * w)).take (k - q * w)) (k - q * w) = chunks l w q ((l.length - 1) / w + 1 - q)
  | 0, k, q, hd, h1, h2 => by
    have hk : k = l.length := by omega
    subst hk
    rw [List.drop_eq_nil_of_le (by rw [pcs_one_len h]; exact Nat.le_refl _)]
    have e : (l.length - 1) / w = q := Nat.div_eq_of_lt_le (by omega) (by rw [Nat.succ_mul]; omega)
    rw [e]
    have e2 : q + 1 - q = 1 := by omega
    rw [e2]
    have e3 : (l.drop (q * w)).take w = l.drop (q * w) := List.take_of_length_le (by simp; omega)
    have e4 : (l.drop (q * w)).take (l.length - q * w) = l.drop (q * w) := List.take_of_length_le (by simp)
    rw [e4]
    show _ = [(l.drop (q * w)).take w]
    rw [e3]
    rfl
  | d + 1, k, q, hd, h1, h2 => by
    have hk : k < l.length := by omega
    rw [drop_cons_at (pcs_one_at h hk), chop]
    have hs : size ((k, k + 1, 1) : Span) = 1 := rfl
    have hp : part l ((k, k + 1, 1) : Span) = (l.drop k).take 1 := by
      show (l.drop k).take (k + 1 - k) = _
      congr 1; omega
    rw [hs, hp]
    have hq : (q + 1) * w = q * w + w := Nat.succ_mul q w
    by_cases ho : w < k - q * w + 1
    · rw [if_pos ho]
      have ek : k = (q + 1) * w := by omega
      have e1 : k + 1 - (q + 1) * w = 1 := by omega
      have ih := chop_one_from h hw d (k + 1) (q + 1) (by omega) (by omega) (by omega)
      rw [e1] at ih
      rw [← ek] at ih
      rw [ih]
      have hle : q + 1 ≤ (l.length - 1) / w := by
        rw [Nat.le_div_iff_mul_le (by omega)]
        omega
      have e2 : (l.length - 1) / w + 1 - q = ((l.length - 1) / w + 1 - (q + 1)) + 1 := by omega
      rw [e2]
      unfold chunks
      rw [List.range'_succ, List.map_cons]
      congr 2
      omega
    · rw [if_neg ho]
      have ih := chop_one_from h hw d (k + 1) q (by omega) (by omega) (by omega)
      have e1 : k + 1 - q * w = k - q * w + 1 := by omega
      rw [e1] at ih
      have e2 : (l.drop (q * w)).take (k - q * w) ++ (l.drop k).take 1 = (l.drop (q * w)).take (k - q * w + 1) := by
        rw [List.take_add, List.drop_drop]
        congr 3
        omega
      rw [e2]
      exact ih
theorem chop_one {l : List Nat} (h : l.all one = true) {w : Nat} (hw : 1 ≤ w) (hl : l ≠ []) : chop l w (pcs l) [] 0 = chunks l w 0 ((l.length - 1) / w + 1) := by
  have hp : 0 < l.length := List.length_pos_iff.mpr hl
  have h0 := pcs_one_at h hp
  have e : pcs l = (0, 1, 1) :: (pcs l).drop 1 := by
    have := drop_cons_at h0
    simpa using this
  have ih := chop_one_from h hw (l.length - 1) 1 0 (by omega) (by omega) (by omega)
  rw [e, chop]
  have hs : size ((0, 1, 1) : Span) = 1 := rfl
  rw [hs, if_neg (by omega)]
  have e2 : ([] ++ part l (0, 1, 1) : List Nat) = (l.drop (0 * w)).take (1 - 0 * w) := by
    show (l.drop 0).take 1 = _
    simp
  rw [e2]
  have e3 : (0 + 1 : Nat) = 1 - 0 * w := by omega
  rw [e3]
  exact ih
end Mine
end
section
open PySem
namespace Mine
def chopped (l : List Nat) (w : Nat) : List (List Nat) := if total l = 0 then [] else chop l w (pcs l) [] 0
/-- what chop_cells knows ahead of piece k -/
structure ChI (l : List Nat) (w k pos o used : Nat) (done : List (List Nat)) : Prop where
  e : done ++ chop l w ((pcs l).drop k) ((l.drop o).take (pos - o)) used = chop l w (pcs l) [] 0
  op : o ≤ pos
  pl : pos ≤ l.length
  at_ : ∀ p, (pcs l)[k]? = some p → pos = p.1
  en : (pcs l)[k]? = none → pos = l.length
  z : used = 0 → done = [] ∧ Psum (pcs l) k = 0
  uw : used ≤ w
  up : used ≤ Psum (pcs l) k
  dl : done.length ≤ k
theorem ChI.start {l : List Nat} {w : Nat} (hne : l ≠ []) : ChI l w 0 0 0 0 [] := by
  refine ⟨rfl, Nat.le_refl _, Nat.zero_le _, fun p hp => (pcs_zero hp).symm, fun h => ?_, fun _ => ⟨rfl, rfl⟩, Nat.zero_le _, Nat.zero_le _, Nat.le_refl _⟩
  cases l with
  | nil => exact absurd rfl hne
  | cons c r =>
    obtain ⟨e, z, q, eq⟩ := go_head r 1 0 (wid c) (n2w c)
    have h' : (go 1 r 0 (wid c) (n2w c))[0]? = none := h
    rw [eq] at h'
    simp at h'
section
variable {l : List Nat} {w k pos o used st en sz : Nat} {done : List (List Nat)}
theorem ChI.over (C : ChI l w k pos o used done) (hw : 2 ≤ w) (hp : (pcs l)[k]? = some (st, en, sz)) (h : w < used + sz) : ChI l w (k + 1) en st sz (done ++ [(l.drop o).take (st - o)]) := by
  have hpos : pos = st := C.at_ _ hp
  subst hpos
  have hn := pcs_next hp
  have hs := pcs_sizes hp
  have hb := pcs_bound (List.mem_of_getElem? hp)
  have hP : Psum (pcs l) (k + 1) = Psum (pcs l) k + sz := Psum_succ hp
  have hk : 1 ≤ k := by
    rcases Nat.eq_zero_or_pos k with h0 | h0
    · subst h0
      have := C.up
      rw [Psum_zero] at this
      have hsz : size ((pos, en, sz) : Span) = sz := rfl
      omega
    · exact h0
  have hsz : size ((pos, en, sz) : Span) = sz := rfl
  refine ⟨?_, Nat.le_of_lt hn.1, hb.2, fun p hp' => (hn.2.1 _ hp').symm, hn.2.2, fun h => ?_, by omega, by omega, ?_⟩
  · have he := C.e
    rw [drop_cons_at hp, chop, hsz, if_pos h] at he
    rw [List.append_assoc]
    exact he
  · have := hs.2 hk
    omega
  · have := C.dl
    simp
    omega
theorem ChI.under (C : ChI l w k pos o used done) (hp : (pcs l)[k]? = some (st, en, sz)) (h : used + sz ≤ w) : ChI l w (k + 1) en o (used + sz) done := by
  have hpos : pos = st := C.at_ _ hp
  subst hpos
  have hn := pcs_next hp
  have hb := pcs_bound (List.mem_of_getElem? hp)
  have hP : Psum (pcs l) (k + 1) = Psum (pcs l) k + sz := Psum_succ hp
  have hsz : size ((pos, en, sz) : Span) = sz := rfl
  have h1 := C.op
  have h2 : pos < en := hn.1
  refine ⟨?_, by omega, hb.2, fun p hp' => (hn.2.1 _ hp').symm, hn.2.2, fun h => ?_, h, by have := C.up; omega, Nat.le_succ_of_le C.dl⟩
  · have he := C.e
    rw [drop_cons_at hp, chop, hsz, if_neg (by omega)] at he
    have e2 : (l.drop o).take (en - o) = (l.drop o).take (pos - o) ++ part l (pos, en, sz) := by
      show _ = _ ++ (l.drop pos).take (en - pos)
      have e3 : en - o = (pos - o) + (en - pos) := by omega
      rw [e3, List.take_add, List.drop_drop]
      congr 3
      omega
    rw [e2]
    exact he
  · have := C.z (by omega)
    exact ⟨this.1, by omega⟩
theorem ChI.stop (C : ChI l w k pos o used done) (hk : k = (pcs l).length) (hu : used ≠ 0) : done ++ [l.drop o] = chopped l w := by
  subst hk
  have he := C.e
  have hp := C.en (List.getElem?_eq_none (Nat.le_refl _))
  have ht := C.up
  rw [Psum_top l (Nat.le_refl _)] at ht
  rw [List.drop_length, chop, hp, List.take_of_length_le (by simp)] at he
  unfold chopped
  rw [if_neg (by omega)]
  exact he
theorem ChI.stop0 (C : ChI l w k pos o used done) (hk : k = (pcs l).length) (hu : used = 0) : done = chopped l w := by
  subst hk
  have := C.z hu
  rw [Psum_top l (Nat.le_refl _)] at this
  unfold chopped
  rw [if_pos this.2]
  exact this.1
end
end Mine
end
section
open PySem
namespace Mine
theorem scan_step {i : Nat} {c : Nat} {r : List Nat} : scan i false (c :: r) = ((if i = 0 ∨ 0 < wid c then i :: (scan (i + 1) (c == 8205) r).1 else (scan (i + 1) (c == 8205) r).1), (if c = 65039 then i :: (scan (i + 1) (c == 8205) r).2 else (scan (i + 1) (c == 8205) r).2)) := rfl
/-- the loop of _law_pieces that reads the signs -/
structure ScI (l : List Nat) (i : Nat) (flag : Bool) (bs ss : List Nat) : Prop where
  b : bs ++ (scan i flag (l.drop i)).1 = (scan 0 false l).1
  s : ss ++ (scan i flag (l.drop i)).2 = (scan 0 false l).2
  bl : bs.length ≤ i
  sl : ss.length ≤ i
theorem ScI.start (l : List Nat) : ScI l 0 false [] [] := ⟨rfl, rfl, Nat.le_refl _, Nat.le_refl _⟩
section
variable {l : List Nat} {i c : Nat} {bs ss : List Nat}
theorem drop_at (h : l[i]? = some c) : l.drop i = c :: l.drop (i + 1) := by
  have hk : i < l.length := by
    by_cases hk : i < l.length
    · exact hk
    · rw [List.getElem?_eq_none (by omega)] at h; cases h
  rw [List.drop_eq_getElem_cons hk]
  congr 1
  rw [List.getElem?_eq_getElem hk] at h
  exact Option.some.inj h
theorem ScI.skip (S : ScI l i true bs ss) (h : l[i]? = some c) : ScI l (i + 1) false bs ss := by
  have h1 := S.b
  have h2 := S.s
  rw [drop_at h] at h1 h2
  exact ⟨h1, h2, Nat.le_succ_of_le S.bl, Nat.le_succ_of_le S.sl⟩
theorem ScI.go (S : ScI l i false bs ss) (h : l[i]? = some c) : ScI l (i + 1) (c == 8205) (if i = 0 ∨ 0 < wid c then bs ++ [i] else bs) (if c = 65039 then ss ++ [i] else ss) := by
  have h1 := S.b
  have h2 := S.s
  have h3 := S.bl
  have h4 := S.sl
  rw [drop_at h, scan_step] at h1 h2
  dsimp only at h1 h2
  refine ⟨?_, ?_, ?_, ?_⟩
  · split
    · rename_i hc
      rw [if_pos hc] at h1
      rw [List.append_assoc]; exact h1
    · rename_i hc
      rw [if_neg hc] at h1
      exact h1
  · split
    · rename_i hc
      rw [if_pos hc] at h2
      rw [List.append_assoc]; exact h2
    · rename_i hc
      rw [if_neg hc] at h2
      exact h2
  · split
    · simp; omega
    · omega
  · split
    · simp; omega
    · omega
theorem ScI.done {flag : Bool} (S : ScI l l.length flag bs ss) : bs = (scan 0 false l).1 ∧ ss = (scan 0 false l).2 := by
  have h1 := S.b
  have h2 := S.s
  rw [List.drop_length] at h1 h2
  cases flag <;> simpa [scan] using And.intro h1 h2
end
theorem scan_head {c : Nat} {r : List Nat} : ∃ B, (scan 0 false (c :: r)).1 = 0 :: B := ⟨(scan 1 (c == 8205) r).1, by rw [scan_step]; simp⟩
theorem pcs_at {l : List Nat} (hl : ∀ c r, l = c :: r → c ≠ 8205) {k : Nat} (hk : k < (scan 0 false l).1.length) : ∃ b e, ((scan 0 false l).1 ++ [l.length])[k]? = some b ∧ ((scan 0 false l).1 ++ [l.length])[k + 1]? = some e ∧ (pcs l)[k]? = some (b, e, szl l (scan 0 false l).2 b e) ∧ b < l.length := by
  cases l with
  | nil => simp [scan] at hk
  | cons c r =>
    have hp := pcs_scan (r := r) (hl c r rfl)
    have hge := (scan_ge (c :: r) 0 false).1
    obtain ⟨B, hB⟩ := @scan_head c r
    rw [hB] at hp hk hge ⊢
    rw [List.tail_cons, spansR_zip] at hp
    have h1 : ((0 :: B) ++ [(c :: r).length])[k]? = some (0 :: B)[k] := by
      rw [List.getElem?_append_left hk, List.getElem?_eq_getElem hk]
    have hk2 : k < (B ++ [(c :: r).length]).length := by simp at hk ⊢; omega
    have h2 : ((0 :: B) ++ [(c :: r).length])[k + 1]? = some (B ++ [(c :: r).length])[k] := by
      rw [List.cons_append, List.getElem?_cons_succ, List.getElem?_eq_getElem hk2]
    refine ⟨_, _, h1, h2, ?_, ?_⟩
    · rw [hp, List.getElem?_zipWith, List.getElem?_eq_getElem hk, List.getElem?_eq_getElem hk2]
    · have := (hge _ (List.getElem_mem hk)).2
      simpa using this
theorem pcs_len {l : List Nat} (hl : ∀ c r, l = c :: r → c ≠ 8205) : (scan 0 false l).1.length = (pcs l).length := by
  cases l with
  | nil => rfl
  | cons c r =>
    have hp := pcs_scan (r := r) (hl c r rfl)
    obtain ⟨B, hB⟩ := @scan_head c r
    rw [hB] at hp ⊢
    rw [hp, List.tail_cons, spansR_zip]
    simp
end Mine
end
open PySem PySem.W PyProof.Rows
namespace Mine
noncomputable def hk2 (K : Params → Frag) (as : List Addr) (e : ∀ P, as = (K P).map (·.1)) : Hook := kHook (fun P => (219, tabObj #[]) :: K P) (219 :: as) (fun P => congrArg (219 :: ·) (e P))
section
local macro_rules | `(tactic| o_head ($_ $k $a $e)) => `(tactic| o_head (show Hook from Mine.hk2 $k $a $e))
open_top hd for PySem.Challenge.rw_fe0297_01
end
end Mine
namespace Mine
open PySem PySem.Spec PySem.Calls PyProof.Rows PySem.W

/-- no exception is awaited -/
abbrev FF : Value → Shared → Prop := fun _ _ => False

/-- the end of a turn of a for -/
def ForNext (h₀ : Heap) (L I : Addr) (o : Obj) (J : (Str → Option Value) → List (Addr × Obj) → Array GenState → Prop) (d : Drawn) (os : OsState) (s₃ : Shared) : Prop :=
  ∃ h' gs tk m' rest', s₃ = ⟨h', gs, d, tk, os⟩ ∧ Fr h₀ L h' m' ∧ News h₀ L h' ((I, o) :: rest') ∧ (∀ p ∈ rest', p.1 ≠ I) ∧ J m' rest' gs
theorem ForNext.intro {h₀ : Heap} {L I : Addr} {o : Obj} {J : (Str → Option Value) → List (Addr × Obj) → Array GenState → Prop} {d : Drawn} {os : OsState} {h' : Heap} {gs : Array GenState} {tk : Nat} {m' : Str → Option Value} {l : List (Addr × Obj)} (rest' : List (Addr × Obj))
    (F : Fr h₀ L h' m') (N : News h₀ L h' l) (hs : ∀ p ∈ (I, o) :: rest', p ∈ l) (hr : ∀ p ∈ rest', p.1 ≠ I) (hJ : J m' rest' gs) : ForNext h₀ L I o J d os ⟨h', gs, d, tk, os⟩ :=
  ⟨h', gs, tk, m', rest', rfl, F, fun p hp => N p (hs p hp), hr, hJ⟩
def ForPost (h₀ : Heap) (L I : Addr) (o : Obj) (J : (Str → Option Value) → List (Addr × Obj) → Array GenState → Prop) (d : Drawn) (os : OsState) (Q : Flow → Shared → Prop) (f : Flow) (s₃ : Shared) : Prop :=
  match f with
  | .brk => Q .next s₃
  | .ret r => Q (.ret r) s₃
  | _ => ForNext h₀ L I o J d os s₃
def LoopLed (prog : Program) (w : World) (A : Around) (env : Env) (target : PySem.Expr) (body orelse : List Stmt) (Q : Flow → Shared → Prop) (it : Value) (s₂ : Shared) : Prop :=
  codeAny (model prog w) A (.forLoop target it body orelse env) (fun r s' => match r with | .ok f => Q f s' | .error _ => False) s₂

section
variable {prog : Program} {w : World} {A : Around} {env : Env} {target iter : PySem.Expr} {body orelse : List Stmt} {Q : Flow → Shared → Prop} {s : Shared} {h₀ : Heap}

theorem For_led {pos : Pos} (h : wpAny (model prog w) A (eval iter env) (fun xv s₁ => wpAny (model prog w) A (pyIter xv) (fun it s₂ => LoopLed prog w A env target body orelse Q it s₂) FF s₁) FF s)
    (hs : ∀ x, foldedSetIterable iter env x = pure x := by intro _; rfl) : wpAny (model prog w) A (exec (.For target iter body orelse pos) env) Q FF s := by
  refine wpAny_For (wpAny_mono h (fun xv s₁ h₁ => wpAny_mono h₁ (fun it s₂ h₂ => codeAny_mono h₂ fun r s' hr => ?_) fun _ _ z => z) fun _ _ z => z) hs
  cases r with
  | ok f => exact hr
  | error e => exact hr.elim

theorem forLoop_led {I : Addr} {fp : List Addr} {n : Nat} {P : Nat → Value → Prop} {St : Nat → Heap → Prop} {m : Str → Option Value} {rest : List (Addr × Obj)}
    (J : Nat → (Str → Option Value) → List (Addr × Obj) → Array GenState → Prop)
    (W : Walks prog w A I fp [I] n P St) (hobj : ∀ i h, St i h → ∃ o, h.get? I = some o)
    (hfix : ∀ b ∈ fp, b ≠ I → ∃ ob, ∀ i m rest gs h, J i m rest gs → Fr h₀ env.locals h m → News h₀ env.locals h rest → h.get? b = some ob)
    (hlet : ∀ i v (s : Shared) (Q : Unit → Shared → Prop), P i v → St (i + 1) s.heap → Q () s → wpAny (model prog w) A (letOwnedTupleGo target (.ref I) v) Q FF s)
    (hI0 : h₀.get? I = none) (hIL : I ≠ env.locals) (F : Fr h₀ env.locals s.heap m) (N : News h₀ env.locals s.heap rest) (hr : ∀ p ∈ rest, p.1 ≠ I) (hst : St 0 s.heap) (h0 : J 0 m rest s.gens)
    (turn : ∀ i v m rest gs o h tk, i < n → P i v → J i m rest gs → (∀ p ∈ rest, p.1 ≠ I) → Fr h₀ env.locals h m → News h₀ env.locals h ((I, o) :: rest) →
      wpAny (model prog w) A (assign target env v) (fun _ s₂ => wpAny (model prog w) A (execs body env) (ForPost h₀ env.locals I o (J (i + 1)) s.drawn s.os Q) FF s₂) FF ⟨h, gs, s.drawn, tk, s.os⟩)
    (done : ∀ m rest gs h tk, J n m rest gs → Fr h₀ env.locals h m → News h₀ env.locals h rest → wpAny (model prog w) A (execs orelse env) Q FF ⟨h, gs, s.drawn, tk, s.os⟩) :
    LoopLed prog w A env target body orelse Q (.ref I) s := by
  unfold LoopLed
  refine codeAny_forLoop_any (fun k s' => ∃ i h gs tk m rest, s' = ⟨h, gs, s.drawn, tk, s.os⟩ ∧ i ≤ n ∧ k = n - i ∧ St i h ∧ Fr h₀ env.locals h m ∧ News h₀ env.locals h rest ∧ (∀ p ∈ rest, p.1 ≠ I) ∧ J i m rest gs) ?_ n
    ⟨0, s.heap, s.gens, s.toks, m, rest, rfl, Nat.zero_le _, rfl, hst, F, N, hr, h0⟩
  rintro k s' ⟨i, h, gs, tk, m, rest, rfl, hi, rfl, hst, F, N, hr, hJ⟩
  have keeps : ∀ h', (∀ b o, b ∉ [I] → h.get? b = some o → h'.get? b = some o) → Fr h₀ env.locals h' m ∧ News h₀ env.locals h' rest := by
    intro h' hk
    have ne : ∀ b, b ≠ I → b ∉ [I] := fun b hb hm => hb (List.mem_singleton.mp hm)
    refine ⟨⟨F.ns.at' fun o e => hk _ o (ne _ (Ne.symm hIL)) e, fun b o e => hk b o (ne b fun q => by rw [q, hI0] at e; cases e) (F.keep b o e), F.above⟩, fun p hp => ⟨hk _ _ (ne _ (hr p hp)) (N p hp).1, (N p hp).2⟩⟩
  by_cases hin : i < n
  · refine W.item i _ _ _ hin hst fun v h' tk' hP hst' hk => ?_
    obtain ⟨F', N'⟩ := keeps h' hk
    obtain ⟨o, ho⟩ := hobj _ _ hst'
    have NI : News h₀ env.locals h' ((I, o) :: rest) := fun p hp => by
      rcases List.mem_cons.mp hp with rfl | hp
      · exact ⟨ho, hIL, hI0⟩
      · exact N' p hp
    refine wpAny_mono (hlet i v _ _ hP hst' ?_) (fun _ _ z => z) (fun _ _ z => z.elim)
    refine wpAny_mono (turn i v m rest gs o h' tk' hin hP hJ hr F' NI) (fun _ s₂ h₂ => wpAny_mono h₂ (fun f s₃ h₃ => ?_) fun _ _ z => z.elim) fun _ _ z => z.elim
    have nx : ForNext h₀ env.locals I o (J (i + 1)) s.drawn s.os s₃ → ∃ k, k < n - i ∧ ∃ i h gs tk m rest, s₃ = ⟨h, gs, s.drawn, tk, s.os⟩ ∧ i ≤ n ∧ k = n - i ∧ St i h ∧ Fr h₀ env.locals h m ∧ News h₀ env.locals h rest ∧ (∀ p ∈ rest, p.1 ≠ I) ∧ J i m rest gs := by
      rintro ⟨h₂, gs₂, tk₂, m₂, rest₂, rfl, F₂, N₂, hr₂, hJ₂⟩
      have N₃ : News h₀ env.locals h₂ rest₂ := fun p hp => N₂ p (.tail _ hp)
      refine ⟨n - (i + 1), by omega, i + 1, h₂, gs₂, tk₂, m₂, rest₂, rfl, hin, rfl, W.frame _ _ _ hst' ?_, F₂, N₃, hr₂, hJ₂⟩
      intro b hb ob e
      by_cases hbI : b = I
      · subst hbI
        rw [ho] at e
        cases e
        exact (N₂ _ (.head _)).1
      · obtain ⟨ob', hx⟩ := hfix b hb hbI
        have e1 := hx i m rest gs h' hJ F' N'
        rw [e1] at e
        cases e
        exact hx (i + 1) m₂ rest₂ gs₂ h₂ hJ₂ F₂ N₃
    cases f with
    | brk => exact h₃
    | ret r => exact h₃
    | next => exact nx h₃
    | cont => exact nx h₃
  · have hin' : i = n := by omega
    subst hin'
    refine W.done _ _ _ hst fun h' tk' hk => ?_
    obtain ⟨F', N'⟩ := keeps h' hk
    exact wpAny_mono (done m rest gs h' tk' hJ F' N') (fun f s' z => z) fun _ _ z => z.elim
end

section
variable {prog : Program} {w : World} {A : Around} {env : Env} {target : PySem.Expr} {body orelse : List Stmt} {Q : Flow → Shared → Prop} {s : Shared} {h₀ : Heap} {m : Str → Option Value} {rest : List (Addr × Obj)}

theorem fresh_addr (F : Fr h₀ env.locals s.heap m) : h₀.get? s.heap.objs.size = none := next_is_new F
theorem fresh_ne (F : Fr h₀ env.locals s.heap m) : s.heap.objs.size ≠ env.locals := Ne.symm (Nat.ne_of_lt F.ns.lt)
theorem fresh_rest (N : News h₀ env.locals s.heap rest) : ∀ p ∈ rest, p.1 ≠ s.heap.objs.size := fun p hp => Nat.ne_of_lt (Heap.lt_size (N p hp).1)
theorem news_push (N : News h₀ env.locals s.heap rest) (o : Obj) : News h₀ env.locals (s.heap.push o) rest := fun p hp => ⟨Heap.get?_push_of_some _ (N p hp).1, (N p hp).2⟩

/-- a for over a text -/
theorem iter_str {x : Str} {t : Tok} (J : Nat → (Str → Option Value) → List (Addr × Obj) → Array GenState → Prop)
    (hh : A.handled = none) (F : Fr h₀ env.locals s.heap m) (N : News h₀ env.locals s.heap rest) (h0 : J 0 m rest s.gens)
    (hlet : ∀ v I, letOwnedTupleGo target (.ref I) v = pure () := by intros; rfl)
    (turn : ∀ i c t I m rest gs o h tk, x.cps[i]? = some c → J i m rest gs → (∀ p ∈ rest, p.1 ≠ I) → Fr h₀ env.locals h m → News h₀ env.locals h ((I, o) :: rest) →
      wpAny (model prog w) A (assign target env (.str ⟨#[c]⟩ t)) (fun _ s₂ => wpAny (model prog w) A (execs body env) (ForPost h₀ env.locals I o (J (i + 1)) s.drawn s.os Q) FF s₂) FF ⟨h, gs, s.drawn, tk, s.os⟩)
    (done : ∀ m rest gs h tk, J x.cps.size m rest gs → Fr h₀ env.locals h m → News h₀ env.locals h rest → wpAny (model prog w) A (execs orelse env) Q FF ⟨h, gs, s.drawn, tk, s.os⟩) :
    wpAny (model prog w) A (pyIter (.str x t)) (fun it s₂ => LoopLed prog w A env target body orelse Q it s₂) FF s := by
  cases ha : x.cps.all (· < 128)
  · refine wpAny_pyIter_wide ha ?_
    refine forLoop_led J (Walks.strWide hh s.heap.objs.size x t) (fun i h ⟨o, ho, _⟩ => ⟨o, ho⟩) (fun b hb hne => absurd (List.mem_singleton.mp hb) hne) (fun i v s Q _ _ hq => by rw [hlet]; exact wpAny_pure hq) (fresh_addr F) (fresh_ne F) (F.push _) (news_push N _) (fresh_rest N) ⟨_, Heap.get?_push_size _ rfl, rfl, rfl⟩ h0 ?_ done
    rintro i v m rest gs o h tk hi ⟨c, u, hc, rfl⟩ hJ hr F' N'
    exact turn i c u _ m rest gs o h tk hc hJ hr F' N'
  · refine wpAny_pyIter_ascii ha ?_
    refine forLoop_led J (Walks.strAscii hh s.heap.objs.size x t) (fun i h ⟨o, ho, _⟩ => ⟨o, ho⟩) (fun b hb hne => absurd (List.mem_singleton.mp hb) hne) (fun i v s Q _ _ hq => by rw [hlet]; exact wpAny_pure hq) (fresh_addr F) (fresh_ne F) (F.push _) (news_push N _) (fresh_rest N) ⟨_, Heap.get?_push_size _ rfl, rfl, rfl⟩ h0 ?_ done
    rintro i v m rest gs o h tk hi ⟨c, u, hc, rfl⟩ hJ hr F' N'
    exact turn i c u _ m rest gs o h tk hc hJ hr F' N'

/-- a for over a list that stays as it is: ol its object -/
theorem iter_list {l : Addr} {items : Array Value} {k : Nat} (J : Nat → (Str → Option Value) → List (Addr × Obj) → Array GenState → Prop)
    (hh : A.handled = none) (F : Fr h₀ env.locals s.heap m) (N : News h₀ env.locals s.heap rest) (h0 : J 0 m rest s.gens)
    (hl : ∀ i m rest gs h, J i m rest gs → Fr h₀ env.locals h m → News h₀ env.locals h rest → h.get? l = some (listOf items k))
    (hpl : (∃ x px, target = .Name x px) ∨ ((∃ a b c, target = .Tuple a b c) ∧ ∀ (i : Nat) (v : Value), items[i]? = some v → ∃ T, v = Value.ref T))
    (turn : ∀ i v I m rest gs o h tk, items[i]? = some v → J i m rest gs → (∀ p ∈ rest, p.1 ≠ I) → Fr h₀ env.locals h m → News h₀ env.locals h ((I, o) :: rest) →
      wpAny (model prog w) A (assign target env v) (fun _ s₂ => wpAny (model prog w) A (execs body env) (ForPost h₀ env.locals I o (J (i + 1)) s.drawn s.os Q) FF s₂) FF ⟨h, gs, s.drawn, tk, s.os⟩)
    (done : ∀ m rest gs h tk, J items.size m rest gs → Fr h₀ env.locals h m → News h₀ env.locals h rest → wpAny (model prog w) A (execs orelse env) Q FF ⟨h, gs, s.drawn, tk, s.os⟩) :
    wpAny (model prog w) A (pyIter (.ref l)) (fun it s₂ => LoopLed prog w A env target body orelse Q it s₂) FF s := by
  have hol := hl 0 m rest s.gens s.heap h0 F N
  have hls : s.heap.IsList l items := ⟨_, hol, rfl, k, rfl⟩
  have hne : l ≠ s.heap.objs.size := Nat.ne_of_lt (Heap.lt_size hol)
  refine wpAny_pyIter_list hls ?_
  refine forLoop_led J (Walks.list hh s.heap.objs.size l hne items) (fun i h ⟨⟨o, ho, _⟩, _⟩ => ⟨o, ho⟩) (fun b hb hbn => ?_) (fun i v s Q hP hst hq => ?_) (fresh_addr F) (fresh_ne F) (F.push _) (news_push N _) (fresh_rest N) ⟨⟨_, Heap.get?_push_size _ rfl, rfl, rfl⟩, hls.push _⟩ h0 ?_ done
  · have : b = l := by
      rcases List.mem_cons.mp hb with e | hb
      · exact absurd e hbn
      · exact List.mem_singleton.mp hb
    subst this
    exact ⟨_, fun i m rest gs h a b c => hl i m rest gs h a b c⟩
  · rcases hpl with ⟨x, px, rfl⟩ | ⟨⟨a, b, c, rfl⟩, hT⟩
    · exact wpAny_pure hq
    · obtain ⟨T, rfl⟩ := hT i v hP
      exact wpAny_letOwnedTupleGo_listiter hst.1 hq
  · rintro i v m rest gs o h tk hi hP hJ hr F' N'
    exact turn i v _ m rest gs o h tk hP hJ hr F' N'

/-- a for over a range by ones -/
theorem iter_range {r : Addr} {a₀ b₀ : Int} {t₀ u₀ v₀ : Tok} {n : Nat} (J : Nat → (Str → Option Value) → List (Addr × Obj) → Array GenState → Prop)
    (hh : A.handled = none) (hr : IsRange s.heap r a₀ b₀ 1 t₀ u₀ v₀) (hsmall : Builtin.Range.small a₀ b₀ 1 = true) (hsz : Builtin.Range.rangeSize a₀ b₀ 1 = (n : Int))
    (F : Fr h₀ env.locals s.heap m) (N : News h₀ env.locals s.heap rest) (h0 : J 0 m rest s.gens)
    (turn : ∀ i t I m rest gs o h tk, i < n → J i m rest gs → (∀ p ∈ rest, p.1 ≠ I) → Fr h₀ env.locals h m → News h₀ env.locals h ((I, o) :: rest) →
      wpAny (model prog w) A (assign target env (.int (a₀ + (i : Nat)) t)) (fun _ s₂ => wpAny (model prog w) A (execs body env) (ForPost h₀ env.locals I o (J (i + 1)) s.drawn s.os Q) FF s₂) FF ⟨h, gs, s.drawn, tk, s.os⟩)
    (done : ∀ m rest gs h tk, J n m rest gs → Fr h₀ env.locals h m → News h₀ env.locals h rest → wpAny (model prog w) A (execs orelse env) Q FF ⟨h, gs, s.drawn, tk, s.os⟩)
    (hlet : ∀ v I, letOwnedTupleGo target (.ref I) v = pure () := by intros; rfl) :
    wpAny (model prog w) A (pyIter (.ref r)) (fun it s₂ => LoopLed prog w A env target body orelse Q it s₂) FF s := by
  refine wpAny_pyIter_range hr hsmall ?_
  refine forLoop_led J (Walks.range hh s.heap.objs.size a₀ 1 n) (fun i h ho => ⟨_, ho⟩) (fun b hb hne => absurd (List.mem_singleton.mp hb) hne) (fun i v s Q _ _ hq => by rw [hlet]; exact wpAny_pure hq) (fresh_addr F) (fresh_ne F) (F.push _) (news_push N _) (fresh_rest N) ?_ h0 ?_ done
  · show IsRangeIter _ _ _ _ _
    rw [hsz]
    simpa using Heap.get?_push_size _ rfl
  · rintro i v m rest gs o h tk hi ⟨u, rfl⟩ hJ hr F' N'
    rw [Int.mul_one]
    exact turn i u _ m rest gs o h tk hi hJ hr F' N'
end

section
variable {prog : Program} {w : World} {A : Around} {env : Env} {test : PySem.Expr} {body : List Stmt} {Q : Flow → Shared → Prop} {s : Shared}
def WhilePost (J : Nat → Shared → Prop) (n : Nat) (Q : Flow → Shared → Prop) (f : Flow) (s₃ : Shared) : Prop :=
  match f with
  | .brk => Q .next s₃
  | .ret r => Q (.ret r) s₃
  | _ => ∃ k, k < n ∧ J k s₃
theorem While_led {pos : Pos} (J : Nat → Shared → Prop) (n : Nat) (h0 : J n s)
    (turn : ∀ n s, J n s → wpAny (model prog w) A (isTrue test env (eval test env)) (fun b s₂ => if b = true then wpAny (model prog w) A (execs body env) (WhilePost J n Q) FF s₂ else Q .next s₂) FF s) :
    wpAny (model prog w) A (exec (.While test body [] pos) env) Q FF s := by
  have all : ∀ n s, J n s → WhlRest prog w A FF env test body [] Q 0 s := by
    intro n
    induction n using Nat.strongRecOn with
    | ind n ih =>
      intro s hJ
      have hE : PassesOwn (model prog w) A env FF := PassesOwn.never
      have z := whl_turn (prog := prog) (w := w) (A := A) (E := FF) (s := s) (env := env) (test := test) (body := body) (orelse := []) (Q := Q) (k := 0) hE
      refine z (wpAny_mono (turn n s hJ) (fun b s₂ h₂ => ?_) fun _ _ z => z)
      unfold WhlIf
      split
      · rename_i hb
        rw [if_pos hb] at h₂
        refine wpAny_mono h₂ (fun f s₃ h₃ => ?_) fun _ _ z => z
        cases f with
        | brk => exact h₃
        | ret r => exact h₃
        | next => obtain ⟨k, hk, hj⟩ := h₃; exact ih k hk s₃ hj
        | cont => obtain ⟨k, hk, hj⟩ := h₃; exact ih k hk s₃ hj
      · rename_i hb
        rw [if_neg hb] at h₂
        exact wpAny_execs_nil h₂
  exact whl_start 0 (all n s h0)
end

/-- what is known of a frame's names, whatever else it holds -/
def know (ps : List (Str × Value)) (m : Str → Option Value) : Str → Option Value := fun y => match List.lookup y ps with
  | some v => some v
  | none => m y
theorem know_eq {ps : List (Str × Value)} {m : Str → Option Value} (h : ∀ p ∈ ps, m p.1 = some p.2) : know ps m = m := by
  funext y
  unfold know
  induction ps with
  | nil => rfl
  | cons p r ih =>
    obtain ⟨x, v⟩ := p
    rw [List.lookup_cons]
    by_cases e : (y == x) = true
    · have ey : y = x := by simpa using e
      subst ey
      simp only [beq_self_eq_true]
      exact (h _ (.head _)).symm
    · rw [Bool.not_eq_true] at e
      rw [e]
      exact ih fun p hp => h p (.tail _ hp)
theorem fr_know {h₀ h : Heap} {L : Addr} {m : Str → Option Value} (ps : List (Str × Value)) (F : Fr h₀ L h m) (hm : ∀ p ∈ ps, m p.1 = some p.2) : Fr h₀ L h (know ps m) := by
  rw [know_eq hm]; exact F
theorem knows_nil {m : Str → Option Value} : ∀ p ∈ ([] : List (Str × Value)), m p.1 = some p.2 := fun _ h => nomatch h
theorem knows_cons {m : Str → Option Value} {x : Str} {v : Value} {r : List (Str × Value)} (h1 : m x = some v) (h2 : ∀ p ∈ r, m p.1 = some p.2) : ∀ p ∈ (x, v) :: r, m p.1 = some p.2 := List.forall_mem_cons.mpr ⟨h1, h2⟩

/-! contracts -/
theorem codeAny_frames {M : Model} {A : Around} {c : Code} {R : Result → Shared → Prop} {s : Shared} (h : ∀ l, codeAny M { A with frames := some l } c R s) : codeAny M A c R s :=
  fun Γ p hc hΓ => h (envsOf Γ.below) Γ p hc ⟨hΓ.1, hΓ.2.1, fun l hl => by cases hl; rfl, hΓ.2.2.2.1, hΓ.2.2.2.2⟩

abbrev Out4 := Array GenState → List (Addr × Obj) → Array GenState → Value → Prop

/-- the contract of a def: f called with vs, the objects pre laid aside, hands back r; nw are the objects laid aside afterwards -/
def Raw (prog : Program) (w : World) (K : Frag) (f : Addr) (pre : List (Addr × Obj)) (vs : List Value) (D U : Nat) (Out : Out4) : Prop :=
  ∀ (A : Around) (mg mb : Str → Option Value) (p : Program) (loose : List Str) (s : Shared) (Q E : Value → Shared → Prop),
    A.handled = none → K.In (hideAll s.heap (pre.map (·.1))) → TopRead p loose mg mb (hideAll s.heap (pre.map (·.1))) → (∀ q ∈ pre, s.heap.get? q.1 = some q.2) → A.depth + D < recursionLimit → A.units + U < cLine →
    (∀ r nw h' tk' gs', (∀ b o, (hideAll s.heap (pre.map (·.1))).get? b = some o → h'.get? b = some o) → (∀ q ∈ nw, h'.get? q.1 = some q.2 ∧ (hideAll s.heap (pre.map (·.1))).get? q.1 = none) →
      Out s.gens nw gs' r → Q r { s with heap := h', toks := tk', gens := gs' }) →
    wpAny (model prog w) A (call (.ref f) vs) Q E s

/-- nothing laid aside is changed -/
abbrev Keep (pre : List (Addr × Obj)) (Out : List (Addr × Obj) → Value → Prop) : Out4 := fun gs nw gs' r => gs' = gs ∧ ∃ tl, nw = tl ++ pre ∧ Out tl r

/-- how a def's body ends under a contract -/
def RetP (g : Heap) (L : Addr) (s : Shared) (Out : Out4) (fl : Flow) (s' : Shared) : Prop :=
  ∃ nw h' tk' gs' m', s' = { s with heap := h', toks := tk', gens := gs' } ∧ Fr g L h' m' ∧ News g L h' nw ∧ Out s.gens nw gs' (match fl with | .ret v => v | _ => .none)

theorem RetP.intro {g : Heap} {L : Addr} {pre : List (Addr × Obj)} {s : Shared} {Out : List (Addr × Obj) → Value → Prop} {v : Value} {h' : Heap} {tk' : Nat} {m' : Str → Option Value} {l : List (Addr × Obj)} (tl : List (Addr × Obj))
    (F : Fr g L h' m') (N : News g L h' l) (hs : ∀ p ∈ tl ++ pre, p ∈ l) (ho : Out tl v) : RetP g L s (Keep pre Out) (.ret v) { s with heap := h', toks := tk' } :=
  ⟨tl ++ pre, h', tk', s.gens, m', rfl, F, fun p hp => N p (hs p hp), rfl, tl, rfl, ho⟩
theorem RetP.introG {g : Heap} {L : Addr} {s : Shared} {Out : Out4} {v : Value} {h' : Heap} {tk' : Nat} {gs' : Array GenState} {m' : Str → Option Value} {l : List (Addr × Obj)} (nw : List (Addr × Obj))
    (F : Fr g L h' m') (N : News g L h' l) (hs : ∀ p ∈ nw, p ∈ l) (ho : Out s.gens nw gs' v) : RetP g L s Out (.ret v) { s with heap := h', toks := tk', gens := gs' } :=
  ⟨nw, h', tk', gs', m', rfl, F, fun p hp => N p (hs p hp), ho⟩

section
variable {prog : Program} {w : World} {K : Frag} {f : Addr} {pre : List (Addr × Obj)} {vs : List Value} {D U : Nat}
/-- the entry: a def's body walked once is its contract -/
theorem raw_of {Out : Out4}
    {name qual : Str} {params : Arguments} {body : List Stmt} {scope : Scope} {dV kV doc pm cdv ct oc : Value} {an od : Option Addr} {osl : Array (Option Value)} (binds : List (Str × Value))
    (ho : K.lookup f = some ⟨oc, od, .func (fnOf name qual params body scope dV kV doc pm an cdv ct), osl⟩) (hcd : codeIn K cdv qual = true)
    (hbind : ∀ s : Shared, K.In s.heap → BindsTo s (fnOf name qual params body scope dV kV doc pm an cdv ct) ⟨vs, []⟩ binds) (hloc : ∀ y ∈ binds, scope.names.lookup y.1 = some .local)
    (hcell : ∀ x ∈ scope.names, x.2 ≠ .cell) (hco : scope.isCoroutine = false) (hgen : scope.isGenerator = false) (hk : scope.kind = .function)
    (h : ∀ (dp un : Nat) (gd : Option (List Code)) (outer : List Env) (g : Heap) (L : Addr) (mg mb : Str → Option Value) (p : Program) (loose : List Str) (s : Shared),
      Fr g L s.heap (fun y => binds.reverse.lookup y) → K.In g → News g L s.heap pre → TopRead p loose mg mb g → dp + D < recursionLimit → un + U < cLine →
      wpAny (model prog w) (ktrTop dp un gd qual scope L f cdv [] outer) (execs body (envX qual scope L f cdv [])) (RetP g L s Out) FF s) :
    Raw prog w K f pre vs (D + 1) (U + 3) Out := by
  intro A mg mb p loose s Q E hh X T hpre hd hu ret
  obtain ⟨hd', dp, fr, gd, un⟩ := A
  replace hh : hd' = none := hh
  subst hh
  replace hd : dp + (D + 1) < recursionLimit := hd
  replace hu : un + (U + 3) < cLine := hu
  have up : ∀ b o, (hideAll s.heap (pre.map (·.1))).get? b = some o → s.heap.get? b = some o := fun b o e => of_hideAll _ e
  refine wpAny_call (codeAny_frames fun l => ?_)
  refine codeAny_call_def (fd := fnOf name qual params body scope dV kV doc pm an cdv ct) (body := body) (binds := binds) (show dp < recursionLimit by omega) (up _ _ (X _ _ ho)) rfl (T.nolimit.keeps up) (codeRec_of (X.keeps up) hcd) rfl (hbind s (X.keeps up)) hcell hloc (fun h₁ hns hk₁ => ?_) hco hgen hk
  refine wpAny_mono (h (dp + 1) (un + 3) gd l (hideAll s.heap (pre.map (·.1))) s.heap.objs.size mg mb p loose { s with heap := h₁, toks := s.toks + binds.length }
    ⟨hns, fun b o e => hk₁ b o (of_hideAll _ e), Nat.le_of_eq (hideAll_size _ _)⟩ X (fun q hq => ⟨hk₁ _ _ (hpre q hq), Nat.ne_of_lt (Heap.lt_size (hpre q hq)), hideAll_none _ (List.mem_map_of_mem hq)⟩) T (by omega) (by omega))
    (fun fl s' hr => ?_) (fun _ _ z => z.elim)
  obtain ⟨nw, h', tk', gs', m', rfl, F2, N2, hO⟩ := hr
  exact ret _ nw h' tk' gs' F2.keep (fun q hq => ⟨(N2 q hq).1, (N2 q hq).2.2⟩) hO

variable {A : Around} {s : Shared} {h₀ : Heap} {L : Addr} {m mg mb : Str → Option Value} {p : Program} {loose : List Str} {news : List (Addr × Obj)} {Q E : Value → Shared → Prop}
theorem below_hide (F : Fr h₀ L s.heap m) (N : News h₀ L s.heap news) (hsub : ∀ q ∈ pre, q ∈ news) : h₀.StaysIn (hideAll s.heap (pre.map (·.1))) := fun b o e => hideAll_get _ (F.keep b o e) fun q => by
  obtain ⟨x, hx, rfl⟩ := List.mem_map.mp q
  rw [(N x (hsub x hx)).2.2] at e; cases e
theorem frame_hide (F : Fr h₀ L s.heap m) (N : News h₀ L s.heap news) (hsub : ∀ q ∈ pre, q ∈ news) : ∃ o, s.heap.get? L = some o ∧ (hideAll s.heap (pre.map (·.1))).get? L = some o := by
  obtain ⟨oL, es, ep, hL, hLd, hLk, hLf⟩ := F.ns
  refine ⟨oL, hL, hideAll_get _ hL fun q => ?_⟩
  obtain ⟨x, hx, e⟩ := List.mem_map.mp q
  exact (N x (hsub x hx)).2.1 e
theorem Raw.use {Out : Out4} (G : Raw prog w K f pre vs D U Out) (hh : A.handled = none) (F : Fr h₀ L s.heap m) (X : K.In h₀) (N : News h₀ L s.heap news) (T : TopRead p loose mg mb h₀) (hsub : ∀ q ∈ pre, q ∈ news)
    (hd : A.depth + D < recursionLimit) (hu : A.units + U < cLine)
    (ret : ∀ r nw h' tk' gs', Fr h₀ L h' m → News h₀ L h' nw → (∀ q ∈ news, q.1 ∉ pre.map (·.1) → h'.get? q.1 = some q.2 ∧ ∀ x ∈ nw, x.1 ≠ q.1) → Out s.gens nw gs' r → Q r { s with heap := h', toks := tk', gens := gs' }) :
    wpAny (model prog w) A (call (.ref f) vs) Q E s := by
  have st := below_hide F N hsub
  obtain ⟨oL, hL, hLg⟩ := frame_hide F N hsub
  refine G A mg mb p loose s Q E hh (X.keeps st) (T.keeps st) (fun q hq => (N q (hsub q hq)).1) hd hu fun r nw h' tk' gs' k kn o => ret r nw h' tk' gs' ?_ ?_ ?_ o
  · exact ⟨F.ns.at' fun o' e => by rw [hL] at e; cases e; exact k _ _ hLg, fun b o e => k b o (st b o e), F.above⟩
  · refine fun q hq => ⟨(kn q hq).1, fun e => ?_, ?_⟩
    · have := (kn q hq).2; rw [e, hLg] at this; cases this
    · cases e : h₀.get? q.1 with
      | none => rfl
      | some o' => have := (kn q hq).2; rw [st _ _ e] at this; cases this
  · refine fun q hq hn => ?_
    have e := hideAll_get (pre.map (·.1)) (N q hq).1 hn
    exact ⟨k _ _ e, fun x hx ex => by have := (kn x hx).2; rw [ex, e] at this; cases this⟩
/-- a contract that changes nothing laid aside, used -/
theorem Gives.use {Out : List (Addr × Obj) → Value → Prop} (G : Raw prog w K f pre vs D U (Keep pre Out)) (hh : A.handled = none) (F : Fr h₀ L s.heap m) (X : K.In h₀) (N : News h₀ L s.heap news) (T : TopRead p loose mg mb h₀) (hsub : ∀ q ∈ pre, q ∈ news)
    (hd : A.depth + D < recursionLimit) (hu : A.units + U < cLine)
    (ret : ∀ r tl h' tk', Fr h₀ L h' m → News h₀ L h' (tl ++ news) → Out tl r → Q r { s with heap := h', toks := tk' }) :
    wpAny (model prog w) A (call (.ref f) vs) Q E s := by
  refine Raw.use G hh F X N T hsub hd hu fun r nw h' tk' gs' F' N' k ⟨e, tl, e2, o⟩ => ?_
  subst e e2
  refine ret r tl h' tk' F' (fun q hq => ?_) o
  rcases List.mem_append.mp hq with hq | hq
  · exact N' q (List.mem_append_left _ hq)
  · refine ⟨?_, (N q hq).2⟩
    by_cases hm : q.1 ∈ pre.map (·.1)
    · obtain ⟨x, hx, ex⟩ := List.mem_map.mp hm
      have e1 := (N x (hsub x hx)).1
      rw [ex, (N q hq).1] at e1
      have : x = q := Prod.ext ex (Option.some.inj e1).symm
      exact this ▸ (N' x (List.mem_append_right _ hx)).1
    · exact (k q hq hm).1
end
theorem sub_nil {l : List (Addr × Obj)} : ∀ p ∈ ([] : List (Addr × Obj)), p ∈ l := fun _ h => nomatch h
theorem sub_cons {a : Addr × Obj} {r l : List (Addr × Obj)} (h1 : a ∈ l) (h2 : ∀ p ∈ r, p ∈ l) : ∀ p ∈ a :: r, p ∈ l := List.forall_mem_cons.mpr ⟨h1, h2⟩
theorem sub_skip {a : Addr × Obj} {r l : List (Addr × Obj)} (h2 : ∀ p ∈ r, p ∈ l) : ∀ p ∈ r, p ∈ a :: l := fun p h => .tail _ (h2 p h)
theorem sub_self {l : List (Addr × Obj)} : ∀ p ∈ l, p ∈ l := fun _ h => h
theorem sub_appL {a r l : List (Addr × Obj)} (h2 : ∀ p ∈ r, p ∈ a) : ∀ p ∈ r, p ∈ a ++ l := fun p h => List.mem_append_left _ (h2 p h)
theorem sub_appR {a r l : List (Addr × Obj)} (h2 : ∀ p ∈ r, p ∈ l) : ∀ p ∈ r, p ∈ a ++ l := fun p h => List.mem_append_right _ (h2 p h)
theorem sub_app {a r l : List (Addr × Obj)} (h1 : ∀ p ∈ a, p ∈ l) (h2 : ∀ p ∈ r, p ∈ l) : ∀ p ∈ a ++ r, p ∈ l := fun p h => (List.mem_append.mp h).elim (h1 p) (h2 p)

/-! steps on texts given as lists of signs -/
section
variable {prog : Program} {w : World} {A : Around} {E : Value → Shared → Prop} {s : Shared} {l : List Nat} {t u : Tok}
theorem len_sg {Q : Value → Shared → Prop} (hl : l.length < 2 ^ 20) (h : ∀ u tk, Q (.int (l.length : Nat) u) { s with toks := tk }) : wpAny (model prog w) A (call (.builtin "len") [.str ⟨l.toArray⟩ t]) Q E s := by
  have e : (⟨l.toArray⟩ : Str).length = l.length := by simp [Str.length]
  refine P.len_str (by rw [e]; omega) ?_
  rw [e]; exact h _ _
theorem item_sg {value slice : PySem.Expr} {i : Nat} {c : Nat} {Q : Value → Shared → Prop} (hl : l.length < 2 ^ 20) (hc : l[i]? = some c) (h : ∀ u tk, Q (.str ⟨#[c]⟩ u) { s with toks := tk })
    (hs : subscripted slice false (.str ⟨l.toArray⟩ t) (.int (i : Nat) u) = operate [.str ⟨l.toArray⟩ t, .int (i : Nat) u] (getItem (.str ⟨l.toArray⟩ t) (.int (i : Nat) u)) := by with_unfolding_all rfl)
    (ht : ∀ r, letTemporaryGo value (.str ⟨l.toArray⟩ t) r = pure () := by intro _; with_unfolding_all rfl) :
    wpAny (model prog w) A (subscriptTail value slice (.str ⟨l.toArray⟩ t) (.int (i : Nat) u)) Q E s := by
  have hi : i < l.length := by
    by_cases h : i < l.length
    · exact h
    · rw [List.getElem?_eq_none (Nat.le_of_not_lt h)] at hc; cases hc
  have e : (⟨l.toArray⟩ : Str).length = l.length := by simp [Str.length]
  refine item_str (by unfold fitsSsize; simp; omega) (by rw [e]; omega) (by rw [e]; omega) (fun _ => ?_) hs ht
  have e2 : Txt.item ⟨l.toArray⟩ (i : Nat) = ⟨#[c]⟩ := by
    have e3 : seqIndex? ((i : Nat) : Int) (⟨l.toArray⟩ : Str).length = some i := by
      rw [e]; unfold seqIndex?
      simp only [show ¬ (((i : Nat) : Int) < 0) by omega, if_false]
      simp [hi]
    unfold Txt.item Txt.charAt
    rw [e3]
    simp [hc]
  rw [e2]; exact h _ _
end
end Mine
namespace Mine
open PySem PySem.Spec PySem.Calls PyProof.Rows PySem.W
section
variable {prog : Program} {w : World} {A : Around} {E : Value → Shared → Prop} {s : Shared} {h₀ : Heap} {L D : Addr} {m : Str → Option Value} {news news' : List (Addr × Obj)} {ws vs : List Value} {v v' : Value} {n : Nat} {t u : Tok}
theorem set_last {Q : Unit → Shared → Prop} (F : Fr h₀ L s.heap m) (N : News h₀ L s.heap news) (U : Upd D (listOf (ws ++ [v]).toArray n) (listOf (ws ++ [v']).toArray n) news news')
    (h : ∀ h', Fr h₀ L h' m → News h₀ L h' news' → Q () { s with heap := h' }) : wpAny (model prog w) A (setItem (.ref D) (.int (-1) t) v') Q E s := by
  obtain ⟨pre, post, rfl, rfl, a, b⟩ := U.split
  have z := N (D, listOf (ws ++ [v]).toArray n) (List.mem_append.mpr (.inr (.head _)))
  have hs : ((ws ++ [v]).toArray.size : Int) = ws.length + 1 := by simp
  refine ki_setBack z.1 (by omega) (by omega) (by omega) (h _ (F.change (Heap.SameBut.update ..) z.2.1 z.2.2) (ki_turn _ N a b ?_ ?_))
  · have e : (-1 + ((ws ++ [v]).toArray.size : Int)).toNat = ws.length := by omega
    show (ws ++ [v]).toArray.setIfInBounds (-1 + ((ws ++ [v]).toArray.size : Int)).toNat v' = (ws ++ [v']).toArray
    rw [e]
    apply Array.toList_inj.mp
    simp
  · simp
theorem item_last {value slice : PySem.Expr} {Q : Value → Shared → Prop} (N : News h₀ L s.heap news) (hm : (D, listOf (ws ++ [v]).toArray n) ∈ news) (h : Q v s)
    (hs : subscripted slice false (.ref D) (.int (-1) u) = operate [.ref D, .int (-1) u] (getItem (.ref D) (.int (-1) u)) := by with_unfolding_all rfl) :
    wpAny (model prog w) A (subscriptTail value slice (.ref D) (.int (-1) u)) Q E s := by
  refine kde_neg (j := ws.length) (v := v) (PySem.IsL.isList (n := n) (N _ hm).1) (by omega) (by omega) ?_ (by simp) h hs
  unfold seqIndex?
  simp
  omega
theorem append_l {Q : Value → Shared → Prop} (F : Fr h₀ L s.heap m) (N : News h₀ L s.heap news) (U : Upd D (listOf vs.toArray n) (listOf (vs ++ [v]).toArray (n + 1)) news news')
    (h : ∀ h', Fr h₀ L h' m → News h₀ L h' news' → Q .none { s with heap := h' }) (hsz : vs.length < 2000) : wpAny (model prog w) A (call (.builtin "list.append") [.ref D, v]) Q E s := by
  refine append_K (its := vs.toArray) (n := n) F N ?_ h (by rw [List.size_toArray, sizeLine_eq]; omega)
  rw [List.push_toArray]; exact U
theorem item_nth {value slice : PySem.Expr} {i : Nat} {Q : Value → Shared → Prop} (N : News h₀ L s.heap news) (hm : (D, listOf vs.toArray n) ∈ news) (hi : i < 2 ^ 20) (hx : vs[i]? = some v) (h : Q v s)
    (hs : subscripted slice false (.ref D) (.int (i : Nat) u) = operate [.ref D, .int (i : Nat) u] (getItem (.ref D) (.int (i : Nat) u)) := by with_unfolding_all rfl) :
    wpAny (model prog w) A (subscriptTail value slice (.ref D) (.int (i : Nat) u)) Q E s :=
  item_litK (PySem.IsL.isList (n := n) (N _ hm).1) (by omega) (by omega) (by simpa using hx) h hs
end

/-- what stands in a frame -/
def Knows : List (Str × Value) → (Str → Option Value) → Prop
  | [], _ => True
  | (x, v) :: r, m => m x = some v ∧ Knows r m
theorem kn_nil {m : Str → Option Value} : Knows [] m := trivial
theorem kn_cons {m : Str → Option Value} {x : Str} {v : Value} {r : List (Str × Value)} (h1 : m x = some v) (h2 : Knows r m) : Knows ((x, v) :: r) m := ⟨h1, h2⟩
theorem Knows.all : ∀ {ps : List (Str × Value)} {m : Str → Option Value}, Knows ps m → ∀ p ∈ ps, m p.1 = some p.2
  | _ :: _, _, h, _, .head _ => h.1
  | _ :: _, _, h, p, .tail _ hp => Knows.all h.2 p hp
theorem fr_kn {h₀ h : Heap} {L : Addr} {m : Str → Option Value} (ps : List (Str × Value)) (F : Fr h₀ L h m) (hm : Knows ps m) : Fr h₀ L h (know ps m) := fr_know ps F hm.all

section
variable {prog : Program} {w : World} {A : Around} {env : Env} {test : PySem.Expr} {body : List Stmt} {Q : Flow → Shared → Prop} {s : Shared}
def WhileNext (J : Nat → Shared → Prop) (n : Nat) (s₃ : Shared) : Prop := ∃ k, k < n ∧ J k s₃
theorem WhileNext.intro {J : Nat → Shared → Prop} {n : Nat} {s₃ : Shared} (k : Nat) (hk : k < n) (h : J k s₃) : WhileNext J n s₃ := ⟨k, hk, h⟩
def WhileEnd (J : Nat → Shared → Prop) (n : Nat) (Q : Flow → Shared → Prop) (f : Flow) (s₃ : Shared) : Prop :=
  match f with
  | .brk => Q .next s₃
  | .ret r => Q (.ret r) s₃
  | _ => WhileNext J n s₃
theorem whileEnd_eq {J : Nat → Shared → Prop} {n : Nat} {Q : Flow → Shared → Prop} : WhileEnd J n Q = WhilePost J n Q := by
  funext f s
  cases f <;> rfl
theorem While_on {pos : Pos} (J : Nat → Shared → Prop) (n : Nat) (h0 : J n s)
    (turn : ∀ n s, J n s → wpAny (model prog w) A (isTrue test env (eval test env)) (fun b s₂ => if b = true then wpAny (model prog w) A (execs body env) (WhileEnd J n Q) FF s₂ else Q .next s₂) FF s) :
    wpAny (model prog w) A (exec (.While test body [] pos) env) Q FF s :=
  While_led J n h0 fun n s h => by
    have z := turn n s h
    rw [whileEnd_eq] at z
    exact z
end

section
variable {prog : Program} {w : World} {A : Around} {E : Value → Shared → Prop} {s : Shared} {h₀ : Heap} {L D : Addr} {news : List (Addr × Obj)} {ws vs : List Value} {v : Value} {n : Nat}
theorem truthy_snoc {Q : Bool → Shared → Prop} (N : News h₀ L s.heap news) (hm : (D, listOf (ws ++ [v]).toArray n) ∈ news) (hz : ws.length < 2 ^ 20) (h : ∀ tk, Q true { s with toks := tk }) : wpAny (model prog w) A (truthy (.ref D)) Q E s := by
  refine wpAny_truthy_list (PySem.IsL.isList (n := n) (N _ hm).1) (by simp; omega) ?_
  have e : (!(ws ++ [v]).toArray.isEmpty) = true := by simp
  rw [e]; exact h _
end
end Mine
namespace Mine
open PySem PySem.Spec PySem.Calls PyProof.Rows PySem.W
section
variable {prog : Program} {w : World} {A : Around} {E : Value → Shared → Prop} {s : Shared} {h₀ : Heap} {L D : Addr} {m : Str → Option Value} {news news' : List (Addr × Obj)} {vs : List Value} {n : Nat} {t u ui uj : Tok} {l : List Nat} {Q : Value → Shared → Prop} {value slice : PySem.Expr}
theorem len_le (hl : l.length < 2 ^ 20) : (⟨l.toArray⟩ : Str).length ≤ sizeLine := by
  have e : (⟨l.toArray⟩ : Str).length = l.length := by simp [Str.length]
  rw [e, sizeLine_eq]; omega
theorem cut_to {j : Nat} (F : Fr h₀ L s.heap m) (N : News h₀ L s.heap news) (hl : l.length < 2 ^ 20) (hj : j ≤ l.length) (h : ∀ h' t' k, Fr h₀ L h' m → News h₀ L h' news → Q (.str ⟨(l.take j).toArray⟩ t') { s with heap := h', toks := k })
    (hs : subscripted slice false (.str ⟨l.toArray⟩ t) (.ref s.heap.objs.size) = operate [.ref s.heap.objs.size, .str ⟨l.toArray⟩ t] (getItem (.str ⟨l.toArray⟩ t) (.ref s.heap.objs.size)) := by with_unfolding_all rfl)
    (ht : ∀ r, letTemporaryGo value (.str ⟨l.toArray⟩ t) r = pure () := by intro _; with_unfolding_all rfl) :
    wpAny (model prog w) A (subscriptTail value slice (.str ⟨l.toArray⟩ t) (.ref s.heap.objs.size)) Q E { s with heap := s.heap.push { cls := .type "slice", data := .fields #[.none, .int (j : Nat) uj, .none] } } :=
  slice_strN_ns (hsz := len_le hl) F N (fun h' t' k a b => by rw [slice_to hj]; exact h h' t' k a b) hs ht
theorem cut_from {i : Nat} (F : Fr h₀ L s.heap m) (N : News h₀ L s.heap news) (hl : l.length < 2 ^ 20) (hi : i ≤ l.length) (h : ∀ h' t' k, Fr h₀ L h' m → News h₀ L h' news → Q (.str ⟨(l.drop i).toArray⟩ t') { s with heap := h', toks := k })
    (hs : subscripted slice false (.str ⟨l.toArray⟩ t) (.ref s.heap.objs.size) = operate [.ref s.heap.objs.size, .str ⟨l.toArray⟩ t] (getItem (.str ⟨l.toArray⟩ t) (.ref s.heap.objs.size)) := by with_unfolding_all rfl)
    (ht : ∀ r, letTemporaryGo value (.str ⟨l.toArray⟩ t) r = pure () := by intro _; with_unfolding_all rfl) :
    wpAny (model prog w) A (subscriptTail value slice (.str ⟨l.toArray⟩ t) (.ref s.heap.objs.size)) Q E { s with heap := s.heap.push { cls := .type "slice", data := .fields #[.int (i : Nat) ui, .none, .none] } } :=
  slice_strN_sn (hsz := len_le hl) F N (fun h' t' k a b => by rw [slice_from hi]; exact h h' t' k a b) hs ht
theorem cut_mid {i j : Nat} (F : Fr h₀ L s.heap m) (N : News h₀ L s.heap news) (hl : l.length < 2 ^ 20) (hij : i ≤ j) (hj : j ≤ l.length) (h : ∀ h' t' k, Fr h₀ L h' m → News h₀ L h' news → Q (.str ⟨((l.drop i).take (j - i)).toArray⟩ t') { s with heap := h', toks := k })
    (hs : subscripted slice false (.str ⟨l.toArray⟩ t) (.ref s.heap.objs.size) = operate [.ref s.heap.objs.size, .str ⟨l.toArray⟩ t] (getItem (.str ⟨l.toArray⟩ t) (.ref s.heap.objs.size)) := by with_unfolding_all rfl)
    (ht : ∀ r, letTemporaryGo value (.str ⟨l.toArray⟩ t) r = pure () := by intro _; with_unfolding_all rfl) :
    wpAny (model prog w) A (subscriptTail value slice (.str ⟨l.toArray⟩ t) (.ref s.heap.objs.size)) Q E { s with heap := s.heap.push { cls := .type "slice", data := .fields #[.int (i : Nat) ui, .int (j : Nat) uj, .none] } } :=
  slice_strN_ss (hsz := len_le hl) F N (fun h' t' k a b => by rw [slice_mid hij hj]; exact h h' t' k a b) hs ht
theorem pick_to {j : Nat} (hj : j ≤ vs.length) : slicePick vs.toArray none (some (j : Int)) none = (vs.take j).toArray := by
  have e : sliceBounds none (some (j : Int)) none vs.toArray.size = (((0 : Nat) : Int), ((j : Nat) : Int), 1) := by
    have h1 : ¬ ((j : Int) < 0) := by omega
    have h2 : max (0 : Int) (min (j : Int) (vs.length : Int)) = (j : Int) := by omega
    simp [sliceBounds, h1, h2]
  rw [kmk_pick_nat _ e]
  simp
theorem cut_list {j : Nat} (F : Fr h₀ L s.heap m) (N : News h₀ L s.heap news) (hm : (D, listOf vs.toArray n) ∈ news) (hl : vs.length < 2 ^ 20) (hj : j ≤ vs.length)
    (h : ∀ D' h', Fr h₀ L h' m → News h₀ L h' ((D', listOf (vs.take j).toArray 0) :: news) → (∀ p ∈ news, p.1 < D') → Q (.ref D') { s with heap := h' })
    (hs : subscripted slice false (.ref D) (.ref s.heap.objs.size) = operate [.ref s.heap.objs.size, .ref D] (getItem (.ref D) (.ref s.heap.objs.size)) := by with_unfolding_all rfl) (ht : ∀ r, letTemporaryGo value (.ref D) r = pure () := by intro _; with_unfolding_all rfl) :
    wpAny (model prog w) A (subscriptTail value slice (.ref D) (.ref s.heap.objs.size)) Q E { s with heap := s.heap.push { cls := .type "slice", data := .fields #[.none, .int (j : Nat) uj, .none] } } := by
  refine kmk_slice F N (PySem.IsL.isList (n := n) (N _ hm).1) (lo := none) (hi := some (j : Int)) .none (.int _ _) ?_ hs ht (by rw [List.size_toArray, sizeLine_eq]; omega)
  rw [pick_to hj]
  exact h
theorem len_l (N : News h₀ L s.heap news) (hm : (D, listOf vs.toArray n) ∈ news) (hz : vs.length < 2 ^ 20) (h : ∀ u tk, Q (.int (vs.length : Nat) u) { s with toks := tk }) : wpAny (model prog w) A (call (.builtin "len") [.ref D]) Q E s :=
  KM.len_K N hm (by rw [List.size_toArray]) (by omega) (h _ _)
theorem fdiv_nat {a b c : Nat} (hc : 0 < c) (hc2 : c < 2 ^ 12) (h : ∀ u tk, Q (.int ((a * b / c : Nat) : Int) u) { s with toks := tk }) :
    wpAny (model prog w) A (binaryOp .FloorDiv (.int ((a : Nat) * (b : Nat)) t) (.int (c : Nat) u)) Q E s := by
  refine floordiv_int (by omega) ?_ (Or.inl (PyProof.noPylong_small ?_))
  · have e : ((a : Int) * (b : Int)).fdiv (c : Int) = ((a * b / c : Nat) : Int) := by
      rw [← Int.natCast_mul, Int.fdiv_eq_ediv_of_nonneg _ (by omega)]
      rfl
    rw [e]; exact h _ _
  · omega
theorem item_pred {v : Value} {i : Nat} (N : News h₀ L s.heap news) (hm : (D, listOf vs.toArray n) ∈ news) (hi : i < 2 ^ 20) (hx : vs[i]? = some v) (h : Q v s)
    (hs : subscripted slice false (.ref D) (.int (((i + 1 : Nat) : Int) - 1) u) = operate [.ref D, .int (((i + 1 : Nat) : Int) - 1) u] (getItem (.ref D) (.int (((i + 1 : Nat) : Int) - 1) u)) := by with_unfolding_all rfl) :
    wpAny (model prog w) A (subscriptTail value slice (.ref D) (.int (((i + 1 : Nat) : Int) - 1) u)) Q E s := by
  have e : (((i + 1 : Nat) : Int) - 1) = ((i : Nat) : Int) := by omega
  refine item_litK (PySem.IsL.isList (n := n) (N _ hm).1) (by omega) (by omega) (by rw [e]; simpa using hx) h hs
theorem item_tup {v : Value} {xs : List Value} {j : Nat} {k : Int} (N : News h₀ L s.heap news) (hm : (D, ({ cls := .type "tuple", data := .seq xs.toArray n } : Obj)) ∈ news) (hlo : -(2 ^ 63) ≤ k) (hhi : k < 2 ^ 63) (hj : seqIndex? k xs.length = some j) (hx : xs[j]? = some v) (h : Q v s)
    (hs : subscripted slice false (.ref D) (.int k u) = operate [.ref D, .int k u] (getItem (.ref D) (.int k u)) := by with_unfolding_all rfl) :
    wpAny (model prog w) A (subscriptTail value slice (.ref D) (.int k u)) Q E s :=
  item_tupleT ⟨_, (N _ hm).1, rfl, _, rfl⟩ hlo hhi hj hx h hs
theorem add_sg {a b : List Nat} {y : Str} (hy : y = ⟨b.toArray⟩) (hz : a.length + b.length < 2 ^ 20) (h : ∀ t' k, Q (.str ⟨(a ++ b).toArray⟩ t') { s with toks := k }) : wpAny (model prog w) A (binaryOp .Add (.str ⟨a.toArray⟩ t) (.str y u)) Q E s := by
  subst hy
  refine SBL.add (hsz := by show a.toArray.size + b.toArray.size ≤ sizeLine; rw [List.size_toArray, List.size_toArray, sizeLine_eq]; omega) fun t' k _ => ?_
  have e : (⟨a.toArray⟩ : Str) ++ ⟨b.toArray⟩ = ⟨(a ++ b).toArray⟩ := by
    show Str.append _ _ = _
    unfold Str.append
    simp
  rw [e]; exact h _ _
theorem add_gs {a b : List Nat} {x : Str} (hx : x = ⟨a.toArray⟩) (hz : a.length + b.length < 2 ^ 20) (h : ∀ t' k, Q (.str ⟨(a ++ b).toArray⟩ t') { s with toks := k }) : wpAny (model prog w) A (binaryOp .Add (.str x t) (.str ⟨b.toArray⟩ u)) Q E s := by
  subst hx
  exact add_sg rfl hz h
end
end Mine
namespace Mine
open PySem PySem.Spec PySem.Calls PyProof.Rows PySem.W

section
variable {M : Model} {A : Around} {E : Value → Shared → Prop} {s : Shared}
/-- the code of a generator expression, made or found -/
theorem genexprCode_any {env : Env} {c P : Addr} {ps : Array Value} {pos : Pos} {qualname : Str} {scope : Scope} {Q : Value → Shared → Prop} (hc : env.code = .ref c) (C : CodeHd s.heap c P) (hP : s.heap.get? P = some (tabObj ps)) (ht : TriplesOk ps.toList)
    (hQ : ∀ code h' tk ps', Heap.ExtBut P s.heap h' → s.heap.objs.size ≤ h'.objs.size → h'.get? P = some (tabObj ps') → TriplesOk ps'.toList → Q code { s with heap := h', toks := tk }) :
    wpAny M A (genexprCode env pos qualname scope) Q E s := by
  have hok := C.code hP ht
  have htab := C.tab hP
  cases hn : codeAmong pos ps.toList with
  | some c' => exact wpAny_genexprCode_hit hc hok hn (hQ c' s.heap s.toks ps (Heap.ExtBut.refl _ _) (Nat.le_refl _) hP ht)
  | none =>
    refine wpAny_genexprCodeX hc hok htab hn fun c' h' tk hx h1 h2 hcode _ htab' _ => hQ _ h' tk _ hx (Nat.le_trans h1 (Nat.le_of_lt h2)) htab'.2 ?_
    obtain ⟨o, vs, file, tf, flags, tg, inF, text, tt, op, ho, hd, h11, h2', h7, h9, h10, hop, hpd, htr, hne⟩ := hcode
    exact htr
end

section
variable {prog : Program} {w : World} {A : Around} {E : Value → Shared → Prop} {s : Shared} {h₀ : Heap} {c P L : Addr} {ps : Array Value} {m mg : Str → Option Value} {bm : Addr} {ob : Obj} {news : List (Addr × Obj)}

/-- what must stand when the iterator of a generator expression is made -/
def GenIn (prog : Program) (w : World) (A : Around) (h₀ : Heap) (P : Addr) (L : Addr) (m : Str → Option Value) (env : Env) (scope : Scope) (cl : List (Str × Addr)) (x : Str) (elt : Expr)
    (Q : Value → Shared → Prop) (it : Value) (s₂ : Shared) : Prop :=
  ∃ (news : List (Addr × Obj)) (ps : Array Value) (K I : Addr) (fp wr : List Addr) (n₀ : Nat) (Pi : Nat → Value → Prop) (St₀ : Nat → Heap → Prop) (F : Nat → Value → Prop), Fr h₀ L s₂.heap m ∧ News h₀ L s₂.heap ((P, tabObj ps) :: news) ∧ TriplesOk ps.toList ∧ (∀ p ∈ news, p.1 ≠ P) ∧
    L ≤ K ∧ P ≤ K ∧ (∀ p ∈ news, p.1 ≤ K) ∧ K < s₂.heap.objs.size ∧ it = .ref I ∧ (∀ A' : Around, A'.handled = none → Walks prog w A' I fp wr n₀ Pi St₀) ∧ St₀ 0 s₂.heap ∧ (∀ b ∈ fp, b < s₂.heap.objs.size) ∧ P ∉ fp ∧ (∀ b ∈ wr, K < b) ∧
    (∀ (code : Value) (C : Addr) (A' : Around) E' i v (t : Shared) m₂, A'.handled = none → A'.depth ≤ A.depth + 1 → A'.units ≤ A.units + 8 → Pi i v → Fr h₀ C t.heap m₂ → m₂ x = some v → L < C →
      (∀ b o, b ≠ P → b ∉ wr → s₂.heap.get? b = some o → t.heap.get? b = some o) →
      wpAny (model prog w) A' (eval elt (genEnv scope cl C code builtinsNs env)) (fun y s₃ => F i y ∧ Keeps t s₃) E' t) ∧
    (∀ (a : Addr) (s₅ : Shared) (ps' : Array Value), Fr h₀ L s₅.heap m → News h₀ L s₅.heap ((P, tabObj ps') :: news) → TriplesOk ps'.toList → (AllBare s₂.gens → AllBare s₅.gens) → s₅.os = s₂.os → s₅.drawn = s₂.drawn → Gen prog w A K a n₀ F s₅ → Q (.ref a) s₅)

theorem passing_all {n : Nat} {F : Nat → Value → Prop} {prog : Program} {w : World} {A : Around} {K a : Addr} {s : Shared}
    (X : Gen prog w A K a (passing (fun _ => true) n 0).length (fun j y => ∃ i, (passing (fun _ => true) n 0)[j]? = some i ∧ F i y) s) : Gen prog w A K a n F s := by
  have e : passing (fun _ => true) n 0 = List.range n := by simp [passing]
  rw [e] at X
  rw [List.length_range] at X
  obtain ⟨fp, wr, g, St, W, h1, h2, h3, h4, h5⟩ := X
  refine ⟨fp, wr, g, St, ⟨W.sub, W.grefl, W.gtrans, W.frame, fun i s Q E hi st hQ => W.item i s Q E hi st fun v s' hv st' mv => hQ v s' ?_ st' mv, W.done, W.self⟩, h1, h2, h3, h4, h5⟩
  obtain ⟨j, hj, hf⟩ := hv
  rw [List.getElem?_range hi] at hj
  cases hj
  exact hf

theorem gen_make {env : Env} {elt iter : Expr} {x : Str} {px : Pos} {scope : Scope} {cl : List (Str × Addr)} {pos : Pos} {Q : Value → Shared → Prop}
    (_F₀ : Fr h₀ L s.heap m) (C : CodeHd h₀ c P) (M : BMod h₀ env.globals mg bm ob) (hcode : env.code = .ref c) (hlim : h₀.NoLimit)
    (hh : A.handled = none) (hco : scope.isCoroutine = false) (hclos : closureFor scope env = pure cl) (hcell : ∀ y ∈ scope.names, y.2 ≠ .cell) (h0 : scope.names.lookup (".0" : Str) = some NameKind.local)
    (hx : scope.names.lookup x = some .local) (hkind : scope.kind = .function) (hroom : A.depth < recursionLimit)
    (h : wpAny (model prog w) A (eval iter env) (fun xv s₁ => wpAny (model prog w) A (pyIter xv) (GenIn prog w A h₀ P L m env scope cl x elt Q) E s₁) E s)
    (hs : ∀ x, genFold iter env x = pure x) :
    wpAny (model prog w) A (eval (.GeneratorExp elt [⟨.Name x px, iter, [], 0⟩] scope pos) env) Q E s := by
  refine wpAny_GeneratorExp_walksQD hh hco hclos hcell h0 hx hkind hroom (wpAny_mono h (fun xv s₁ h₁' => wpAny_mono h₁' (fun it s₂ h₂ => ?_) fun _ _ e => e) fun _ _ e => e) hs
  obtain ⟨news, ps, K, I, fp, wr, n₀, Pi, St₀, F, F₂, N₂, htr, hoff, hKL, hPK, hNK, hLlt, rfl, W₀, hst, hfp, hPf, hwr, hq, hQ⟩ := h₂
  have hlim₂ : s₂.heap.NoLimit := hlim.keeps F₂.keep
  have hPm := N₂ _ (.head _)
  refine ⟨hlim₂, genexprCode_any hcode (C.keeps F₂.keep) hPm.1 htr fun code h₃ tk₃ ps' hx₃ hsz hP₃ htr' => ?_⟩
  have hP₀ : h₀.get? P = none := hPm.2.2
  have k₃ : ∀ b o, h₀.get? b = some o → h₃.get? b = some o := fun b o e => hx₃ b o (fun q => by rw [q, hP₀] at e; cases e) (F₂.keep b o e)
  have F₃ : Fr h₀ L h₃ m := ⟨F₂.ns.at' fun o e => hx₃ _ o (Ne.symm hPm.2.1) e, k₃, F₂.above⟩
  have M₃ : BMod h₃ env.globals mg bm ob := M.keeps k₃
  have hl₃ : h₃.NoLimit := hlim.keeps k₃
  have hcw : cStatics ∉ wr := fun hm => by
    have h1 : L < cStatics := Nat.lt_of_le_of_lt hKL (hwr _ hm)
    have hL : L ≤ 1 := Nat.le_of_lt_succ h1
    have hb : bm < 1 := Nat.lt_of_lt_of_le (Heap.lt_size M.obj) (Nat.le_trans F₂.above hL)
    exact M.ne (Nat.lt_one_iff.mp hb)
  refine wpAny_builtinsFor M₃.ns M₃.name M₃.ne M₃.obj M₃.cls M₃.dict M₃.data ?_
  refine ⟨I, fp, wr, n₀, Pi, St₀, fun _ => true, F, rfl, W₀, (W₀ A hh).frame _ _ _ hst (fun b hb o e => hx₃ b o (fun e' => hPf (e' ▸ hb)) e), (fun b hb => Nat.lt_of_lt_of_le (hfp b hb) hsz), hl₃, hcw,
    (fun href hhref => ?_), fun a h₅ tk gs hgb hag hsz₅ hk₅ W hat => ?_⟩
  · have hLC : L < h₃.objs.size := Nat.lt_of_lt_of_le F₂.ns.lt hsz
    have inB : ∀ (t : Shared) m₂, t.heap.Ns h₃.objs.size m₂ → (∀ b ∈ List.range h₃.objs.size, b ∉ wr → ∀ o, href.get? b = some o → t.heap.get? b = some o) →
        Fr h₀ h₃.objs.size t.heap m₂ ∧ ∀ b o, b ≠ P → b ∉ wr → s₂.heap.get? b = some o → t.heap.get? b = some o := fun t m₂ hn hkp =>
      ⟨⟨hn, fun b o e => hkp b (List.mem_range.mpr (Heap.lt_size (F₃.keep b o e))) (fun hm => Nat.lt_irrefl _ (Nat.lt_trans (Nat.lt_of_lt_of_le (Heap.lt_size e) F₃.above) (Nat.lt_of_le_of_lt hKL (hwr b hm)))) o (hhref b o (F₃.keep b o e)),
          Nat.le_trans F₃.above (Nat.le_of_lt hLC)⟩,
        fun b o hbP hbw e => hkp b (List.mem_range.mpr (Heap.lt_size (hx₃ b o hbP e))) hbw o (hhref b o (hx₃ b o hbP e))⟩
    exact ⟨fun A' E' i v t m₂ hA hD hU hP hn hm hkp => wpAny_pure ⟨rfl, ⟨_, _, rfl, fun _ _ e => e⟩⟩,
      fun A' E' i v t m₂ hA hD hU hP hp hn hm hkp => hq code _ A' E' i v t m₂ hA hD hU hP (inB t m₂ hn hkp).1 hm hLC (inB t m₂ hn hkp).2⟩
  refine hQ a _ ps' (F₃.keeps hk₅) (fun p hp => ?_) htr' (fun G => G.push hgb) rfl rfl (passing_all ⟨_, _, _, _, W, hat, (fun i s' st => st.1.typeIs), List.mem_cons_self, ?_, ?_⟩)
  · rcases List.mem_cons.mp hp with rfl | hp
    · exact ⟨hk₅ _ _ hP₃, hPm.2⟩
    · exact ⟨hk₅ _ _ (hx₃ _ _ (hoff p hp) (N₂ p (.tail _ hp)).1), (N₂ p (.tail _ hp)).2⟩
  · intro b hb
    show b < h₅.objs.size
    rw [hsz₅]
    rcases List.mem_cons.mp hb with rfl | hb
    · exact Nat.lt_succ_self _
    · rcases List.mem_cons.mp hb with rfl | hb
      · exact Nat.lt_succ_of_lt hag
      · exact Nat.lt_succ_of_lt (Nat.lt_trans (List.mem_range.mp hb) hag)
  · intro b hb
    rcases List.mem_cons.mp hb with rfl | hb
    · exact Nat.lt_of_lt_of_le hLlt hsz
    · exact hwr b hb
end

section
variable {prog : Program} {w : World} {A : Around} {E : Value → Shared → Prop} {s₁ s : Shared} {h₀ : Heap} {P L : Addr} {ps : Array Value} {m : Str → Option Value} {news : List (Addr × Obj)} {env : Env} {scope : Scope} {cl : List (Str × Addr)} {x : Str} {elt : Expr} {Q : Value → Shared → Prop}
theorem src_text {y : List Nat} {ty : Tok} {val : Nat → Int} (F₁ : Fr h₀ L s₁.heap m) (N₁ : News h₀ L s₁.heap ((P, tabObj ps) :: news)) (htr : TriplesOk ps.toList) (hoff : ∀ p ∈ news, p.1 ≠ P)
    (he : ∀ (code : Value) (C : Addr) (A' : Around) E' i c u (t : Shared) m₂, A'.handled = none → A'.depth ≤ A.depth + 1 → A'.units ≤ A.units + 8 → y[i]? = some c → Fr h₀ C t.heap m₂ → m₂ x = some (.str ⟨#[c]⟩ u) → L < C →
      (∀ b o, b ≠ P → s₁.heap.get? b = some o → t.heap.get? b = some o) →
      wpAny (model prog w) A' (eval elt (genEnv scope cl C code builtinsNs env)) (fun r s₃ => (∃ t', r = .int (val i) t') ∧ Keeps t s₃) E' t)
    (done : ∀ (a K : Addr) (s₅ : Shared) (ps' : Array Value), Fr h₀ L s₅.heap m → News h₀ L s₅.heap ((P, tabObj ps') :: news) → TriplesOk ps'.toList → (AllBare s₁.gens → AllBare s₅.gens) → s₅.os = s₁.os → s₅.drawn = s₁.drawn → L ≤ K → P ≤ K → (∀ p ∈ news, p.1 ≤ K) →
      Gen prog w A K a y.length (fun i r => ∃ t', r = .int (val i) t') s₅ → Q (.ref a) s₅) :
    wpAny (model prog w) A (pyIter (.str ⟨y.toArray⟩ ty)) (GenIn prog w A h₀ P L m env scope cl x elt Q) E s₁ := by
  have hPlt : P < s₁.heap.objs.size := Heap.lt_size (N₁ _ (.head _)).1
  have old : ∀ b o, s₁.heap.get? b = some o → b ∉ [s₁.heap.objs.size] := fun b o e hb => by
    rcases List.mem_cons.mp hb with rfl | hb
    · exact absurd (Heap.lt_size e) (Nat.lt_irrefl _)
    · cases hb
  refine wpAny_pyIter_str fun o St W hst => ?_
  have hsz : (⟨y.toArray⟩ : Str).cps.size = y.length := by simp
  rw [hsz] at W
  have lt : ∀ {b : Addr}, b < s₁.heap.objs.size → b ≤ s₁.heap.objs.size - 1 := fun h => Nat.le_sub_one_of_lt h
  refine ⟨news, ps, s₁.heap.objs.size - 1, s₁.heap.objs.size, [s₁.heap.objs.size], [s₁.heap.objs.size], y.length, SignAt ⟨y.toArray⟩, St, fun i r => ∃ t', r = .int (val i) t',
    F₁.keeps fun _ _ e => Heap.get?_push_of_some _ e, fun p hp => ⟨Heap.get?_push_of_some _ (N₁ p hp).1, (N₁ p hp).2⟩, htr, hoff, lt F₁.ns.lt, lt hPlt, fun p hp => lt (Heap.lt_size (N₁ p (.tail _ hp)).1), ?_, rfl, W, hst, ?_, ?_, ?_, ?_, ?_⟩
  · show _ < (s₁.heap.push o).objs.size
    rw [Heap.size_push]; omega
  · intro b hb
    show b < (s₁.heap.push o).objs.size
    rw [Heap.size_push]
    rcases List.mem_cons.mp hb with rfl | hb
    · exact Nat.lt_succ_self _
    · cases hb
  · intro hb
    rcases List.mem_cons.mp hb with e | hb
    · exact absurd (e ▸ hPlt) (Nat.lt_irrefl _)
    · cases hb
  · intro b hb
    rcases List.mem_cons.mp hb with rfl | hb
    · exact Nat.sub_lt (Nat.lt_of_le_of_lt (Nat.zero_le _) hPlt) Nat.one_pos
    · cases hb
  · intro code C A' E' i v u m₂ hA hD hU hP hF hm hLC hk
    obtain ⟨cc, tk, hc, rfl⟩ := hP
    exact he code C A' E' i cc tk u m₂ hA hD hU (by simpa using hc) hF hm hLC fun b o' hb e => hk b o' hb (old b o' e) (Heap.get?_push_of_some _ e)
  · intro a s₅ ps' F5 N5 h5 G5 hos hdr X
    exact done a _ s₅ ps' F5 N5 h5 G5 hos hdr (lt F₁.ns.lt) (lt hPlt) (fun p hp => lt (Heap.lt_size (N₁ p (.tail _ hp)).1)) X

theorem src_lst {l : Addr} {vs : List Value} {k : Nat} {val : Nat → Int} (F₁ : Fr h₀ L s₁.heap m) (N₁ : News h₀ L s₁.heap ((P, tabObj ps) :: news)) (hl : (l, listOf vs.toArray k) ∈ news) (htr : TriplesOk ps.toList) (hoff : ∀ p ∈ news, p.1 ≠ P)
    (he : ∀ (code : Value) (C : Addr) (A' : Around) E' i v (t : Shared) m₂, A'.handled = none → A'.depth ≤ A.depth + 1 → A'.units ≤ A.units + 8 → vs[i]? = some v → Fr h₀ C t.heap m₂ → m₂ x = some v → L < C →
      (∀ b o, b ≠ P → s₁.heap.get? b = some o → t.heap.get? b = some o) →
      wpAny (model prog w) A' (eval elt (genEnv scope cl C code builtinsNs env)) (fun r s₃ => (∃ t', r = .int (val i) t') ∧ Keeps t s₃) E' t)
    (done : ∀ (a K : Addr) (s₅ : Shared) (ps' : Array Value), Fr h₀ L s₅.heap m → News h₀ L s₅.heap ((P, tabObj ps') :: news) → TriplesOk ps'.toList → (AllBare s₁.gens → AllBare s₅.gens) → s₅.os = s₁.os → s₅.drawn = s₁.drawn → L ≤ K → P ≤ K → (∀ p ∈ news, p.1 ≤ K) →
      Gen prog w A K a vs.length (fun i r => ∃ t', r = .int (val i) t') s₅ → Q (.ref a) s₅) :
    wpAny (model prog w) A (pyIter (.ref l)) (GenIn prog w A h₀ P L m env scope cl x elt Q) E s₁ := by
  have hPlt : P < s₁.heap.objs.size := Heap.lt_size (N₁ _ (.head _)).1
  have hls : s₁.heap.IsList l vs.toArray := PySem.IsL.isList (n := k) (N₁ _ (.tail _ hl)).1
  have hlt : l < s₁.heap.objs.size := Heap.lt_size (N₁ _ (.tail _ hl)).1
  have hlP : l ≠ P := hoff _ hl
  have old : ∀ b o, s₁.heap.get? b = some o → b ∉ [s₁.heap.objs.size] := fun b o e hb => by
    rcases List.mem_cons.mp hb with rfl | hb
    · exact absurd (Heap.lt_size e) (Nat.lt_irrefl _)
    · cases hb
  have lt : ∀ {b : Addr}, b < s₁.heap.objs.size → b ≤ s₁.heap.objs.size - 1 := fun h => Nat.le_sub_one_of_lt h
  have hsz : vs.toArray.size = vs.length := by simp
  have W : ∀ A' : Around, A'.handled = none → Walks prog w A' s₁.heap.objs.size [s₁.heap.objs.size, l] [s₁.heap.objs.size] vs.length (fun i v => vs.toArray[i]? = some v) (fun i h => h.IsListIter s₁.heap.objs.size l i ∧ h.IsList l vs.toArray) := fun A' hA => hsz ▸ Walks.list hA _ _ (Nat.ne_of_lt hlt) vs.toArray
  refine wpAny_pyIter_list hls ⟨news, ps, s₁.heap.objs.size - 1, s₁.heap.objs.size, [s₁.heap.objs.size, l], [s₁.heap.objs.size], vs.length, _, _, fun i r => ∃ t', r = .int (val i) t',
    F₁.keeps fun _ _ e => Heap.get?_push_of_some _ e, fun p hp => ⟨Heap.get?_push_of_some _ (N₁ p hp).1, (N₁ p hp).2⟩, htr, hoff, lt F₁.ns.lt, lt hPlt, fun p hp => lt (Heap.lt_size (N₁ p (.tail _ hp)).1), ?_, rfl, W, ⟨⟨_, Heap.get?_push_size _ rfl, rfl, rfl⟩, hls.push _⟩, ?_, ?_, ?_, ?_, ?_⟩
  · show _ < (s₁.heap.push _).objs.size
    rw [Heap.size_push]; omega
  · intro b hb
    show b < (s₁.heap.push _).objs.size
    rw [Heap.size_push]
    rcases List.mem_cons.mp hb with rfl | hb
    · exact Nat.lt_succ_self _
    · rcases List.mem_cons.mp hb with rfl | hb
      · exact Nat.lt_succ_of_lt hlt
      · cases hb
  · intro hb
    rcases List.mem_cons.mp hb with e | hb
    · exact absurd (e ▸ hPlt) (Nat.lt_irrefl _)
    · rcases List.mem_cons.mp hb with e | hb
      · exact hlP e.symm
      · cases hb
  · intro b hb
    rcases List.mem_cons.mp hb with rfl | hb
    · exact Nat.sub_lt (Nat.lt_of_le_of_lt (Nat.zero_le _) hPlt) Nat.one_pos
    · cases hb
  · intro code C A' E' i v u m₂ hA hD hU hP hF hm hLC hk
    exact he code C A' E' i v u m₂ hA hD hU (by simpa using hP) hF hm hLC fun b o' hb e => hk b o' hb (old b o' e) (Heap.get?_push_of_some _ e)
  · intro a s₅ ps' F5 N5 h5 G5 hos hdr X
    exact done a _ s₅ ps' F5 N5 h5 G5 hos hdr (lt F₁.ns.lt) (lt hPlt) (fun p hp => lt (Heap.lt_size (N₁ p (.tail _ hp)).1)) X

theorem sum_gen {a K : Addr} {n : Nat} {val : Nat → Int} (F : Fr h₀ L s.heap m) (N : News h₀ L s.heap ((P, tabObj ps) :: news)) (hLK : L ≤ K) (hPK : P ≤ K) (hNK : ∀ p ∈ news, p.1 ≤ K)
    (X : Gen prog w A K a n (fun i r => ∃ t', r = .int (val i) t') s) (hfit : ∀ j, j < n → InLong (val j) ∧ InLong (preSum val (j + 1)))
    (h : ∀ t' h' gs' tk', Fr h₀ L h' m → News h₀ L h' ((P, tabObj ps) :: news) → (AllBare s.gens → AllBare gs') → Q (.int (preSum val n) t') { s with heap := h', gens := gs', toks := tk' }) :
    wpAny (model prog w) A (call (.builtin "sum") [.ref a]) Q E s := by
  obtain ⟨fp, wr, g, St, W, hst, _, _, hfp, hwr⟩ := X
  have W := W.in4_1
  refine call_sum_walkS (W.self 0 _ _ _ hst ⟨a, _, _, _, _, _, _, val, rfl, W, hst, hfp, fun _ _ h => h, hfit, fun s' t' hm => ?_⟩)
  obtain ⟨h', gs', d', tk', os'⟩ := s'
  have e1 : d' = s.drawn := hm.drawn
  have e2 : os' = s.os := hm.os
  subst e1 e2
  have nw : ∀ b, b ≤ K → b ∉ wr := fun b hb hmem => Nat.lt_irrefl _ (Nat.lt_of_lt_of_le (hwr b hmem) hb)
  refine h t' h' gs' tk' (F.moved hm fun b hb => Nat.lt_of_le_of_lt hLK (hwr b hb)) (fun p hp => ?_) (fun G => AllBare.movedS G hm)
  rcases List.mem_cons.mp hp with rfl | hp
  · exact ⟨hm.heap _ _ (nw _ hPK) (N _ (.head _)).1, (N _ (.head _)).2⟩
  · exact ⟨hm.heap _ _ (nw _ (hNK p hp)) (N p (.tail _ hp)).1, (N p (.tail _ hp)).2⟩
end

section
variable {prog : Program} {w : World} {K : Frag} {f : Addr} {pre : List (Addr × Obj)} {vs : List Value} {D U : Nat}
/-- the entry of a def that keeps names in cells -/
theorem raw_ofC {Out : Out4}
    {name qual : Str} {params : Arguments} {body : List Stmt} {scope : Scope} {dV kV doc pm cdv ct oc : Value} {an od : Option Addr} {osl : Array (Option Value)} (binds : List (Str × Value))
    (ho : K.lookup f = some ⟨oc, od, .func (fnOf name qual params body scope dV kV doc pm an cdv ct), osl⟩) (hcd : codeIn K cdv qual = true)
    (hbind : ∀ s : Shared, K.In s.heap → BindsTo s (fnOf name qual params body scope dV kV doc pm an cdv ct) ⟨vs, []⟩ binds)
    (hkind : ∀ n, ∀ x ∈ binds, scope.names.lookup x.1 = some .local ∨ (scope.names.lookup x.1 = some .cell ∧ ((cellsFrom n scope.names []).lookup x.1).isSome = true))
    (hnd : ((cellsFrom 0 scope.names []).map (·.1)).Nodup) (hco : scope.isCoroutine = false) (hgen : scope.isGenerator = false) (hk : scope.kind = .function)
    (h : ∀ (dp un : Nat) (gd : Option (List Code)) (outer : List Env) (g : Heap) (L : Addr) (mg mb : Str → Option Value) (p : Program) (loose : List Str) (s : Shared) (cells : List (Addr × Obj)),
      Fr g L s.heap (bindL (envOfC qual scope L f cdv).kindOf binds fun _ => none) → K.In g → News g L s.heap (cells ++ pre) → CellsAre (bindC (envOfC qual scope L f cdv).kindOf binds fun _ => none) (cellsFrom (L + 1) scope.names []) cells →
      (∀ q ∈ pre, q.1 < L) → TopRead p loose mg mb g → dp + D < recursionLimit → un + U < cLine →
      wpAny (model prog w) (ktrTop dp un gd qual scope L f cdv (cellsFrom (L + 1) scope.names []) outer) (execs body (envX qual scope L f cdv (cellsFrom (L + 1) scope.names []))) (RetP g L s Out) FF s) :
    Raw prog w K f pre vs (D + 1) (U + 3) Out := by
  intro A mg mb p loose s Q E hh X T hpre hd hu ret
  obtain ⟨hd', dp, fr, gd, un⟩ := A
  replace hh : hd' = none := hh
  subst hh
  replace hd : dp + (D + 1) < recursionLimit := hd
  replace hu : un + (U + 3) < cLine := hu
  have up : ∀ b o, (hideAll s.heap (pre.map (·.1))).get? b = some o → s.heap.get? b = some o := fun b o e => of_hideAll _ e
  refine wpAny_call (codeAny_frames fun l => ?_)
  refine codeAny_call_function (show dp < recursionLimit by omega) (up _ _ (X _ _ ho)) rfl hco hgen rfl (codeRec_of (X.keeps up) hcd) (hbind s (X.keeps up) _ _ _ _ ?_)
  refine wpAny_newFunctionEnv_cells hk (hkind _) fun env' he s' x => ?_
  subst he
  refine ⟨(T.nolimit.keeps up).keeps x.toInCall.keep, codeAny_func ?_⟩
  obtain ⟨h₁, tk, rfl, _⟩ := x.done
  have hk₁ := x.toInCall.keep
  obtain ⟨cells, NC, Y⟩ := Cl.news (h₀ := s.heap) (Nat.le_refl _) fun n c hm => ⟨x.cell n c (lookup_of_mem_nodup (cellsFrom_names scope.names 0 (s.heap.objs.size + 1) [] [] rfl ▸ hnd) hm), x.above n c hm⟩
  refine wpAny_mono (h (dp + 1) (un + 3) gd l (hideAll s.heap (pre.map (·.1))) s.heap.objs.size mg mb p loose { s with heap := h₁, toks := tk } cells
    ⟨x.toInCall.ns, fun b o e => hk₁ b o (of_hideAll _ e), Nat.le_of_eq (hideAll_size _ _)⟩ X (fun q hq => ?_) Y (fun q hq => Heap.lt_size (hpre q hq)) T (by omega) (by omega)) (fun fl s' hr => ?_) (fun _ _ z => z.elim)
  · rcases List.mem_append.mp hq with hq | hq
    · refine ⟨(NC q hq).1, (NC q hq).2.1, ?_⟩
      cases e : (hideAll s.heap (pre.map (·.1))).get? q.1 with
      | none => rfl
      | some o => have := of_hideAll _ e; rw [(NC q hq).2.2] at this; cases this
    · exact ⟨hk₁ _ _ (hpre q hq), Nat.ne_of_lt (Heap.lt_size (hpre q hq)), hideAll_none _ (List.mem_map_of_mem hq)⟩
  · obtain ⟨nw, h', tk', gs', m', rfl, F2, N2, hO⟩ := hr
    exact ret _ nw h' tk' gs' F2.keep (fun q hq => ⟨(N2 q hq).1, (N2 q hq).2.2⟩) hO
end

/-- the module of the builtins, as the globals name it -/
def BM (mg : Str → Option Value) (h : Heap) : Prop := ∃ bm ob, BMod h mainGlobals mg bm ob
theorem BM.keeps {mg : Str → Option Value} {h h' : Heap} (x : BM mg h) (hk : ∀ b o, h.get? b = some o → h'.get? b = some o) : BM mg h' := let ⟨bm, ob, M⟩ := x; ⟨bm, ob, M.keeps hk⟩
theorem BM.of {p : Program} {loose : List Str} {mean : ExcName → Option Value} {mg mb : Str → Option Value} {h : Heap} (T : Top p loose mean mg mb h) : BM mg h :=
  let ⟨bm, ob, a1, a2, a3, a4, a5, a6⟩ := T.bmain; ⟨bm, ob, ⟨T.g, a1, a2, a3, a4, a5, a6⟩⟩
/-- the same, where the module of the builtins is known too: f called with vs, the objects pre laid aside, hands back r; nw are the objects laid aside afterwards -/
def RawB (prog : Program) (w : World) (K : Frag) (f : Addr) (pre : List (Addr × Obj)) (vs : List Value) (D U : Nat) (Out : Out4) : Prop :=
  ∀ (A : Around) (mg mb : Str → Option Value) (p : Program) (loose : List Str) (s : Shared) (Q E : Value → Shared → Prop),
    BM mg (hideAll s.heap (pre.map (·.1))) → A.handled = none → K.In (hideAll s.heap (pre.map (·.1))) → TopRead p loose mg mb (hideAll s.heap (pre.map (·.1))) → (∀ q ∈ pre, s.heap.get? q.1 = some q.2) → A.depth + D < recursionLimit → A.units + U < cLine →
    (∀ r nw h' tk' gs', (∀ b o, (hideAll s.heap (pre.map (·.1))).get? b = some o → h'.get? b = some o) → (∀ q ∈ nw, h'.get? q.1 = some q.2 ∧ (hideAll s.heap (pre.map (·.1))).get? q.1 = none) →
      Out s.gens nw gs' r → Q r { s with heap := h', toks := tk', gens := gs' }) →
    wpAny (model prog w) A (call (.ref f) vs) Q E s

section
variable {prog : Program} {w : World} {K : Frag} {f : Addr} {pre : List (Addr × Obj)} {vs : List Value} {D U : Nat}
/-- the entry: a def's body walked once is its contract -/
theorem rawB_of {Out : Out4}
    {name qual : Str} {params : Arguments} {body : List Stmt} {scope : Scope} {dV kV doc pm cdv ct oc : Value} {an od : Option Addr} {osl : Array (Option Value)} (binds : List (Str × Value))
    (ho : K.lookup f = some ⟨oc, od, .func (fnOf name qual params body scope dV kV doc pm an cdv ct), osl⟩) (hcd : codeIn K cdv qual = true)
    (hbind : ∀ s : Shared, K.In s.heap → BindsTo s (fnOf name qual params body scope dV kV doc pm an cdv ct) ⟨vs, []⟩ binds) (hloc : ∀ y ∈ binds, scope.names.lookup y.1 = some .local)
    (hcell : ∀ x ∈ scope.names, x.2 ≠ .cell) (hco : scope.isCoroutine = false) (hgen : scope.isGenerator = false) (hk : scope.kind = .function)
    (h : ∀ (dp un : Nat) (gd : Option (List Code)) (outer : List Env) (g : Heap) (L : Addr) (mg mb : Str → Option Value) (p : Program) (loose : List Str) (s : Shared),
      Fr g L s.heap (fun y => binds.reverse.lookup y) → K.In g → News g L s.heap pre → TopRead p loose mg mb g → BM mg g → dp + D < recursionLimit → un + U < cLine →
      wpAny (model prog w) (ktrTop dp un gd qual scope L f cdv [] outer) (execs body (envX qual scope L f cdv [])) (RetP g L s Out) FF s) :
    RawB prog w K f pre vs (D + 1) (U + 3) Out := by
  intro A mg mb p loose s Q E BMh hh X T hpre hd hu ret
  obtain ⟨hd', dp, fr, gd, un⟩ := A
  replace hh : hd' = none := hh
  subst hh
  replace hd : dp + (D + 1) < recursionLimit := hd
  replace hu : un + (U + 3) < cLine := hu
  have up : ∀ b o, (hideAll s.heap (pre.map (·.1))).get? b = some o → s.heap.get? b = some o := fun b o e => of_hideAll _ e
  refine wpAny_call (codeAny_frames fun l => ?_)
  refine codeAny_call_def (fd := fnOf name qual params body scope dV kV doc pm an cdv ct) (body := body) (binds := binds) (show dp < recursionLimit by omega) (up _ _ (X _ _ ho)) rfl (T.nolimit.keeps up) (codeRec_of (X.keeps up) hcd) rfl (hbind s (X.keeps up)) hcell hloc (fun h₁ hns hk₁ => ?_) hco hgen hk
  refine wpAny_mono (h (dp + 1) (un + 3) gd l (hideAll s.heap (pre.map (·.1))) s.heap.objs.size mg mb p loose { s with heap := h₁, toks := s.toks + binds.length }
    ⟨hns, fun b o e => hk₁ b o (of_hideAll _ e), Nat.le_of_eq (hideAll_size _ _)⟩ X (fun q hq => ⟨hk₁ _ _ (hpre q hq), Nat.ne_of_lt (Heap.lt_size (hpre q hq)), hideAll_none _ (List.mem_map_of_mem hq)⟩) T BMh (by omega) (by omega))
    (fun fl s' hr => ?_) (fun _ _ z => z.elim)
  obtain ⟨nw, h', tk', gs', m', rfl, F2, N2, hO⟩ := hr
  exact ret _ nw h' tk' gs' F2.keep (fun q hq => ⟨(N2 q hq).1, (N2 q hq).2.2⟩) hO

/-- the entry of a def that keeps names in cells -/
theorem rawB_ofC {Out : Out4}
    {name qual : Str} {params : Arguments} {body : List Stmt} {scope : Scope} {dV kV doc pm cdv ct oc : Value} {an od : Option Addr} {osl : Array (Option Value)} (binds : List (Str × Value))
    (ho : K.lookup f = some ⟨oc, od, .func (fnOf name qual params body scope dV kV doc pm an cdv ct), osl⟩) (hcd : codeIn K cdv qual = true)
    (hbind : ∀ s : Shared, K.In s.heap → BindsTo s (fnOf name qual params body scope dV kV doc pm an cdv ct) ⟨vs, []⟩ binds)
    (hkind : ∀ n, ∀ x ∈ binds, scope.names.lookup x.1 = some .local ∨ (scope.names.lookup x.1 = some .cell ∧ ((cellsFrom n scope.names []).lookup x.1).isSome = true))
    (hnd : ((cellsFrom 0 scope.names []).map (·.1)).Nodup) (hco : scope.isCoroutine = false) (hgen : scope.isGenerator = false) (hk : scope.kind = .function)
    (h : ∀ (dp un : Nat) (gd : Option (List Code)) (outer : List Env) (g : Heap) (L : Addr) (mg mb : Str → Option Value) (p : Program) (loose : List Str) (s : Shared) (cells : List (Addr × Obj)),
      Fr g L s.heap (bindL (envOfC qual scope L f cdv).kindOf binds fun _ => none) → K.In g → News g L s.heap (cells ++ pre) → CellsAre (bindC (envOfC qual scope L f cdv).kindOf binds fun _ => none) (cellsFrom (L + 1) scope.names []) cells →
      (∀ q ∈ pre, q.1 < L) → TopRead p loose mg mb g → BM mg g → dp + D < recursionLimit → un + U < cLine →
      wpAny (model prog w) (ktrTop dp un gd qual scope L f cdv (cellsFrom (L + 1) scope.names []) outer) (execs body (envX qual scope L f cdv (cellsFrom (L + 1) scope.names []))) (RetP g L s Out) FF s) :
    RawB prog w K f pre vs (D + 1) (U + 3) Out := by
  intro A mg mb p loose s Q E BMh hh X T hpre hd hu ret
  obtain ⟨hd', dp, fr, gd, un⟩ := A
  replace hh : hd' = none := hh
  subst hh
  replace hd : dp + (D + 1) < recursionLimit := hd
  replace hu : un + (U + 3) < cLine := hu
  have up : ∀ b o, (hideAll s.heap (pre.map (·.1))).get? b = some o → s.heap.get? b = some o := fun b o e => of_hideAll _ e
  refine wpAny_call (codeAny_frames fun l => ?_)
  refine codeAny_call_function (show dp < recursionLimit by omega) (up _ _ (X _ _ ho)) rfl hco hgen rfl (codeRec_of (X.keeps up) hcd) (hbind s (X.keeps up) _ _ _ _ ?_)
  refine wpAny_newFunctionEnv_cells hk (hkind _) fun env' he s' x => ?_
  subst he
  refine ⟨(T.nolimit.keeps up).keeps x.toInCall.keep, codeAny_func ?_⟩
  obtain ⟨h₁, tk, rfl, _⟩ := x.done
  have hk₁ := x.toInCall.keep
  obtain ⟨cells, NC, Y⟩ := Cl.news (h₀ := s.heap) (Nat.le_refl _) fun n c hm => ⟨x.cell n c (lookup_of_mem_nodup (cellsFrom_names scope.names 0 (s.heap.objs.size + 1) [] [] rfl ▸ hnd) hm), x.above n c hm⟩
  refine wpAny_mono (h (dp + 1) (un + 3) gd l (hideAll s.heap (pre.map (·.1))) s.heap.objs.size mg mb p loose { s with heap := h₁, toks := tk } cells
    ⟨x.toInCall.ns, fun b o e => hk₁ b o (of_hideAll _ e), Nat.le_of_eq (hideAll_size _ _)⟩ X (fun q hq => ?_) Y (fun q hq => Heap.lt_size (hpre q hq)) T BMh (by omega) (by omega)) (fun fl s' hr => ?_) (fun _ _ z => z.elim)
  · rcases List.mem_append.mp hq with hq | hq
    · refine ⟨(NC q hq).1, (NC q hq).2.1, ?_⟩
      cases e : (hideAll s.heap (pre.map (·.1))).get? q.1 with
      | none => rfl
      | some o => have := of_hideAll _ e; rw [(NC q hq).2.2] at this; cases this
    · exact ⟨hk₁ _ _ (hpre q hq), Nat.ne_of_lt (Heap.lt_size (hpre q hq)), hideAll_none _ (List.mem_map_of_mem hq)⟩
  · obtain ⟨nw, h', tk', gs', m', rfl, F2, N2, hO⟩ := hr
    exact ret _ nw h' tk' gs' F2.keep (fun q hq => ⟨(N2 q hq).1, (N2 q hq).2.2⟩) hO
variable {A : Around} {s : Shared} {h₀ : Heap} {L : Addr} {m mg mb : Str → Option Value} {p : Program} {loose : List Str} {news : List (Addr × Obj)} {Q E : Value → Shared → Prop}
theorem RawB.use {Out : Out4} (G : RawB prog w K f pre vs D U Out) (BMh : BM mg h₀) (hh : A.handled = none) (F : Fr h₀ L s.heap m) (X : K.In h₀) (N : News h₀ L s.heap news) (T : TopRead p loose mg mb h₀) (hsub : ∀ q ∈ pre, q ∈ news)
    (hd : A.depth + D < recursionLimit) (hu : A.units + U < cLine)
    (ret : ∀ r nw h' tk' gs', Fr h₀ L h' m → News h₀ L h' nw → (∀ q ∈ news, q.1 ∉ pre.map (·.1) → h'.get? q.1 = some q.2 ∧ ∀ x ∈ nw, x.1 ≠ q.1) → Out s.gens nw gs' r → Q r { s with heap := h', toks := tk', gens := gs' }) :
    wpAny (model prog w) A (call (.ref f) vs) Q E s := by
  have st := below_hide F N hsub
  obtain ⟨oL, hL, hLg⟩ := frame_hide F N hsub
  refine G A mg mb p loose s Q E (BMh.keeps st) hh (X.keeps st) (T.keeps st) (fun q hq => (N q (hsub q hq)).1) hd hu fun r nw h' tk' gs' k kn o => ret r nw h' tk' gs' ?_ ?_ ?_ o
  · exact ⟨F.ns.at' fun o' e => by rw [hL] at e; cases e; exact k _ _ hLg, fun b o e => k b o (st b o e), F.above⟩
  · refine fun q hq => ⟨(kn q hq).1, fun e => ?_, ?_⟩
    · have := (kn q hq).2; rw [e, hLg] at this; cases this
    · cases e : h₀.get? q.1 with
      | none => rfl
      | some o' => have := (kn q hq).2; rw [st _ _ e] at this; cases this
  · refine fun q hq hn => ?_
    have e := hideAll_get (pre.map (·.1)) (N q hq).1 hn
    exact ⟨k _ _ e, fun x hx ex => by have := (kn x hx).2; rw [ex, e] at this; cases this⟩
end
end Mine
namespace Mine
open PySem PySem.Spec PySem.Calls PyProof.Rows PySem.W PyProof.Rows.LCg

section
variable {prog : Program} {w : World} {A : Around} {E : Value → Shared → Prop} {s : Shared} {h₀ : Heap} {L : Addr} {m : Str → Option Value} {env : Env}

/-- behind the value of a list comprehension's element -/
def CompNext (h₀ : Heap) (L : Addr) (m : Str → Option Value) (d : Drawn) (os : OsState) (I : Addr) (oI : Obj) (C : Addr) (oC : Obj) (D : Addr) (ys : List Value) (J : List Value → List (Addr × Obj) → Array GenState → Prop) (y : Value) (s₄ : Shared) : Prop :=
  ∃ h' gs tk news', s₄ = ⟨h', gs, d, tk, os⟩ ∧ Fr h₀ L h' m ∧ News h₀ L h' ((I, oI) :: (C, oC) :: (D, lst ys) :: news') ∧ Off3 I C D news' ∧ J (ys ++ [y]) news' gs
theorem CompNext.intro {d : Drawn} {os : OsState} {I C D : Addr} {oI oC : Obj} {ys : List Value} {J : List Value → List (Addr × Obj) → Array GenState → Prop} {y : Value} {h' : Heap} {gs : Array GenState} {tk : Nat} {all : List (Addr × Obj)}
    (news' : List (Addr × Obj)) (F : Fr h₀ L h' m) (N : News h₀ L h' all) (sub : ∀ p ∈ (I, oI) :: (C, oC) :: (D, lst ys) :: news', p ∈ all) (off : Off3 I C D news') (hJ : J (ys ++ [y]) news' gs) : CompNext h₀ L m d os I oI C oC D ys J y ⟨h', gs, d, tk, os⟩ :=
  ⟨h', gs, tk, news', rfl, F, fun p hp => N p (sub p hp), off, hJ⟩

/-- what the body of a list comprehension meets -/
def CompTurn (prog : Program) (w : World) (A : Around) (h₀ : Heap) (L : Addr) (m : Str → Option Value) (d : Drawn) (os : OsState) (env : Env) (elt : Expr) (scope : Scope) (cl : List (Str × Addr)) (n : Nat) (Bnd : Nat → Value → (Str → Option Value) → Prop) (P : Nat → Value → Prop)
    (J : Nat → List Value → List (Addr × Obj) → Array GenState → Prop) : Prop :=
  ∀ i v ys news gs I oI C oC D m₂ h tk, i < n → P i v → J i ys news gs → NsObj oC m₂ → Bnd i v m₂ → Fr h₀ L h m → News h₀ L h ((I, oI) :: (C, oC) :: (D, lst ys) :: news) → Off3 I C D news → ((@Ne Nat I C) ∧ (@Ne Nat I D) ∧ (@Ne Nat C D)) → h₀.get? C = none → C ≠ L →
    wpAny (model prog w) A (eval elt (compEnvC scope cl C env)) (CompNext h₀ L m d os I oI C oC D ys (J (i + 1))) FF ⟨h, gs, d, tk, os⟩

/-- the state between two turns -/
def CompInv (h₀ : Heap) (L : Addr) (m : Str → Option Value) (d : Drawn) (os : OsState) (I C D : Addr) (n : Nat) (St : Nat → Heap → Prop) (J : Nat → List Value → List (Addr × Obj) → Array GenState → Prop) (k : Nat) (s' : Shared) : Prop :=
  ∃ i h gs tk ys m' news, s' = ⟨h, gs, d, tk, os⟩ ∧ i ≤ n ∧ k = n + 1 - i ∧ ys.length = i ∧ St i h ∧ Fr h₀ L h m ∧ h.Ns C m' ∧ News h₀ L h ((D, lst ys) :: news) ∧ Off3 I C D news ∧ J i ys news gs

structure CompGround (prog : Program) (w : World) (A : Around) (h₀ : Heap) (L : Addr) (I C D : Addr) (fp : List Addr) (n : Nat) (P : Nat → Value → Prop) (St : Nat → Heap → Prop) (J : Nat → List Value → List (Addr × Obj) → Array GenState → Prop) : Prop where
  W : Walks prog w A I fp [I] n P St
  sz : n ≤ sizeLine
  obj : ∀ i h, St i h → ∃ o, h.get? I = some o
  fix : ∀ b ∈ fp, b ≠ I → ∃ ob, ∀ i ys news gs h, J i ys news gs → (∀ b o, h₀.get? b = some o → h.get? b = some o) → News h₀ L h news → h.get? b = some ob
  hIL : I ≠ L
  hI₀ : h₀.get? I = none
  hC₀ : h₀.get? C = none
  hD₀ : h₀.get? D = none
  hCL : C ≠ L
  hDL : D ≠ L
  hIC : I ≠ C
  hID : I ≠ D
  hCD : C ≠ D
  hCf : C ∉ fp
  hDf : D ∉ fp

/-- behind the storing of the turn's names: the element, and the list's growing -/
theorem comp_after {elt : Expr} {scope : Scope} {cl : List (Str × Addr)} {I C D : Addr} {fp : List Addr} {n i : Nat} {P : Nat → Value → Prop} {Bnd : Nat → Value → (Str → Option Value) → Prop} {St : Nat → Heap → Prop} {J : Nat → List Value → List (Addr × Obj) → Array GenState → Prop}
    {d : Drawn} {os : OsState} {v : Value} {ys : List Value} {news : List (Addr × Obj)} {gs : Array GenState} {h₃ : Heap} {tk : Nat} {m₂ : Str → Option Value} {E₁ E₂ : Value → Shared → Prop}
    (G : CompGround prog w A h₀ L I C D fp n P St J) (turn : CompTurn prog w A h₀ L m d os env elt scope cl n Bnd P J)
    (hi : i < n) (hP : P i v) (hJ : J i ys news gs) (hyl : ys.length = i) (hst : St (i + 1) h₃) (F : Fr h₀ L h₃ m) (hn : h₃.Ns C m₂) (hB : Bnd i v m₂) (N : News h₀ L h₃ ((D, lst ys) :: news)) (off : Off3 I C D news) :
    wpAny (model prog w) A (eval elt (compEnvC scope cl C env)) (fun x s₄ => wpAny (model prog w) A (call (.builtin "list.append") [.ref D, x]) (fun _ s₅ => ∃ k, k < n + 1 - i ∧ CompInv h₀ L m d os I C D n St J k s₅) E₁ s₄) E₂ ⟨h₃, gs, d, tk, os⟩ := by
  obtain ⟨oI, heI⟩ := G.obj _ _ hst
  obtain ⟨oC, heC, hoC⟩ := ns_obj hn
  have N₃ : News h₀ L h₃ ((I, oI) :: (C, oC) :: (D, lst ys) :: news) := List.forall_mem_cons.mpr ⟨⟨heI, G.hIL, G.hI₀⟩, List.forall_mem_cons.mpr ⟨⟨heC, G.hCL, G.hC₀⟩, N⟩⟩
  refine wpAny_mono (turn i v ys news gs I oI C oC D m₂ h₃ tk hi hP hJ hoC hB F N₃ off ⟨G.hIC, G.hID, G.hCD⟩ G.hC₀ G.hCL) (fun y s₄ h₄ => ?_) (fun _ _ z => z.elim)
  obtain ⟨h₄, gs₄, tk₄, news₄, rfl, F₄, N₄, off₄, J₄⟩ := h₄
  have zI := (N₄ (I, oI) (.head _)).1
  have zC := (N₄ (C, oC) (.tail _ (.head _))).1
  have zD := (N₄ (D, lst ys) (.tail _ (.tail _ (.head _)))).1
  have N₅ : News h₀ L h₄ news₄ := fun p hp => N₄ p (.tail _ (.tail _ (.tail _ hp)))
  have Nb : News h₀ L h₃ news := fun p hp => N p (.tail _ hp)
  have hst₄ : St (i + 1) h₄ := G.W.frame _ _ _ hst fun b hb ob e => by
    by_cases hbI : b = I
    · subst hbI
      rw [heI] at e
      cases e
      exact zI
    · obtain ⟨ob', hx⟩ := G.fix b hb hbI
      have e1 := hx i ys news gs h₃ hJ F.keep Nb
      rw [e1] at e
      cases e
      exact hx (i + 1) _ news₄ gs₄ h₄ J₄ F₄.keep N₅
  refine append_at (hsz := by show ys.toArray.size ≤ sizeLine; rw [List.size_toArray, hyl]; exact Nat.le_trans (Nat.le_of_lt hi) G.sz) zD fun h₅ hs₅ hD₅ => ?_
  have off4 := off₄.mem
  refine ⟨n + 1 - (i + 1), by omega, i + 1, h₅, gs₄, tk₄, ys ++ [y], m₂, news₄, rfl, hi, rfl, by rw [List.length_append, List.length_singleton, hyl], ?_, F₄.change hs₅ G.hDL G.hD₀, (hoC.ns zC).sameBut hs₅ G.hCD, List.forall_mem_cons.mpr ⟨⟨hD₅.trans (congrArg some (lst_snoc ys y)), G.hDL, G.hD₀⟩, fun p hp => ⟨hs₅.extBut _ _ (off4 p hp).2.2 (N₅ p hp).1, (N₅ p hp).2⟩⟩, off₄, J₄⟩
  exact G.W.frame _ _ _ hst₄ fun b hb ob e => hs₅.extBut b ob (fun q => G.hDf (by have q' : b = D := q; rw [← q']; exact hb)) e

/-- one turn's head: the next item, or the end -/
theorem comp_head {I C D : Addr} {fp : List Addr} {n k : Nat} {P : Nat → Value → Prop} {St : Nat → Heap → Prop} {J : Nat → List Value → List (Addr × Obj) → Array GenState → Prop} {d : Drawn} {os : OsState} {s' : Shared} {Z : Value → Shared → Prop} {R : Shared → Prop} {E' : Value → Shared → Prop}
    (G : CompGround prog w A h₀ L I C D fp n P St J) (hInv : CompInv h₀ L m d os I C D n St J k s')
    (hit : ∀ i v h gs tk ys m' news, i < n → k = n + 1 - i → P i v → ys.length = i → St (i + 1) h → Fr h₀ L h m → h.Ns C m' → News h₀ L h ((D, lst ys) :: news) → Off3 I C D news → J i ys news gs → Z v ⟨h, gs, d, tk, os⟩)
    (hend : ∀ h gs tk ys m' news, Fr h₀ L h m → h.Ns C m' → News h₀ L h ((D, lst ys) :: news) → Off3 I C D news → J n ys news gs → R ⟨h, gs, d, tk, os⟩) :
    wpAny (model prog w) A (pyNext (.ref I)) (fun r s₁ => match r with | none => R s₁ | some v => Z v s₁) E' s' := by
  obtain ⟨i, h, gs, tk, ys, m', news, rfl, hi, rfl, hyl, hst, F, hn, N, off, hJ⟩ := hInv
  have off3 := off.mem
  have keeps : ∀ h', (∀ b o, b ∉ [I] → h.get? b = some o → h'.get? b = some o) → Fr h₀ L h' m ∧ h'.Ns C m' ∧ News h₀ L h' ((D, lst ys) :: news) := fun h' hk =>
    ⟨fr_but F hk (Ne.symm G.hIL) G.hI₀, hn.at' fun o e => hk _ o (by simpa using Ne.symm G.hIC) e, news_but N hk (List.forall_mem_cons.mpr ⟨Ne.symm G.hID, fun p hp => (off3 p hp).1⟩)⟩
  by_cases hlt : i < n
  · refine G.W.item i _ _ _ hlt hst fun v h' tk' hP hst' hk => ?_
    obtain ⟨F', hn', N'⟩ := keeps h' hk
    exact hit i v h' gs tk' ys m' news hlt rfl hP hyl hst' F' hn' N' off hJ
  · obtain rfl : i = n := Nat.le_antisymm hi (Nat.not_lt.mp hlt)
    refine G.W.done _ _ _ hst fun h' tk' hk => ?_
    obtain ⟨F', hn', N'⟩ := keeps h' hk
    exact hend h' gs tk' ys m' news F' hn' N' off hJ

/-- the block of a list comprehension: where the loop's own rule is given -/
theorem comp_block {target : Expr} {elt iter : Expr} {scope : Scope} {cl : List (Str × Addr)} {pos : Pos} {s₂ : Shared} {I : Addr} {fp : List Addr} {n : Nat} {P : Nat → Value → Prop} {St : Nat → Heap → Prop} {news : List (Addr × Obj)} {J : Nat → List Value → List (Addr × Obj) → Array GenState → Prop}
    {Q : Value → Shared → Prop}
    (W : Walks prog w A I fp [I] n P St) (hsz : n ≤ sizeLine) (hobj : ∀ i h, St i h → ∃ o, h.get? I = some o)
    (hfix : ∀ b ∈ fp, b ≠ I → ∃ ob, ∀ i ys news gs h, J i ys news gs → (∀ b o, h₀.get? b = some o → h.get? b = some o) → News h₀ L h news → h.get? b = some ob)
    (hcell : ∀ y ∈ scope.names, y.2 ≠ .cell) (hkind : scope.kind = .function) (hst : St 0 s₂.heap) (hfp : ∀ b ∈ fp, b < s₂.heap.objs.size)
    (F : Fr h₀ L s₂.heap m) (N : News h₀ L s₂.heap news) (hIL : I ≠ L) (hI₀ : h₀.get? I = none) (off : ∀ p ∈ news, p.1 ≠ I) (h0 : J 0 [] news s₂.gens)
    (loop : ∀ (C D : Addr) (R : Result → Shared → Prop) (s₃ : Shared), CompGround prog w A h₀ L I C D fp n P St J → CompInv h₀ L m s₂.drawn s₂.os I C D n St J (n + 1) s₃ →
      (∀ h gs tk ys m' news, Fr h₀ L h m → h.Ns C m' → News h₀ L h ((D, lst ys) :: news) → Off3 I C D news → J n ys news gs → R (.ok .next) ⟨h, gs, s₂.drawn, tk, s₂.os⟩) →
      codeAny (model prog w) A (.compLoop (.ListComp elt [⟨target, iter, [], 0⟩] scope pos) 0 (.ref I) (.ref D) (compEnvC scope cl C env)) R s₃)
    (done : ∀ D ys news gs h tk, J n ys news gs → Fr h₀ L h m → News h₀ L h ((D, lst ys) :: news) → Off1 D news → Q (.ref D) ⟨h, gs, s₂.drawn, tk, s₂.os⟩) :
    wpAny (model prog w) A (newList []) (fun acc s₃ => wpAny (model prog w) A (newFunctionEnv scope env.globals cl [] env.qual none .none (some env)) (fun cenv s₄ =>
      codeAny (model prog w) A (.compStart (.ListComp elt [⟨target, iter, [], 0⟩] scope pos) 0 (.ref I) acc { cenv with scope := relabel scope env }) (compPost (model prog w) A E none Q acc cenv.locals) s₄) E s₃) E s₂ := by
  refine wpAny_newObj_type (wpAny_newFunctionEnv hcell (fun y hy => nomatch hy) (fun h₁ hns₁ hsb₁ => ?_) hkind)
  dsimp only at hns₁ hsb₁ ⊢
  generalize hH2 : s₂.heap.push { cls := .type "list", dict := none, data := .seq ([] : List Value).toArray } = H2 at hns₁ hsb₁ ⊢
  have hC : H2.objs.size = s₂.heap.objs.size + 1 := by rw [← hH2, Heap.size_push]
  have below : ∀ b, b < s₂.heap.objs.size → b ≠ H2.objs.size ∧ b ≠ s₂.heap.objs.size := fun b hb => ⟨by rw [hC]; exact Nat.ne_of_lt (Nat.lt_succ_of_lt hb), Nat.ne_of_lt hb⟩
  have hDC : s₂.heap.objs.size ≠ H2.objs.size := by rw [hC]; exact Nat.ne_of_lt (Nat.lt_succ_self _)
  have old : ∀ b o, s₂.heap.get? b = some o → h₁.get? b = some o := fun b o e => hsb₁.extBut b o (below b (Heap.lt_size e)).1 (Heap.get?_push_of_some _ (hH2 ▸ Heap.get?_push_of_some _ e))
  have hacc : h₁.get? s₂.heap.objs.size = some (lst []) := hsb₁.extBut _ _ hDC (Heap.get?_push_of_some _ (hH2 ▸ Heap.get?_push_size _ rfl))
  have fresh : ∀ a, s₂.heap.objs.size ≤ a → h₀.get? a = none := fun a ha => by
    cases e : h₀.get? a with
    | none => rfl
    | some o' => exact absurd (Heap.lt_size (F.keep a o' e)) (Nat.not_lt.mpr ha)
  have hIlt : I < s₂.heap.objs.size := hfp I (W.sub I (List.mem_singleton.mpr rfl))
  have hLlt : L < s₂.heap.objs.size := F.ns.lt
  have hD₀ : h₀.get? s₂.heap.objs.size = none := fresh _ (Nat.le_refl _)
  have hC₀ : h₀.get? H2.objs.size = none := fresh _ (by rw [hC]; exact Nat.le_succ _)
  have G : CompGround prog w A h₀ L I H2.objs.size s₂.heap.objs.size fp n P St J :=
    ⟨W, hsz, hobj, hfix, hIL, hI₀, hC₀, hD₀, Ne.symm (below L hLlt).1, Ne.symm (below L hLlt).2, (below I hIlt).1, (below I hIlt).2, Ne.symm hDC,
      fun hm => by have := hfp _ hm; rw [hC] at this; exact Nat.lt_irrefl _ (Nat.lt_of_succ_lt this), fun hm => Nat.lt_irrefl _ (hfp _ hm)⟩
  have off₀ : Off3 I H2.objs.size s₂.heap.objs.size news := Off3.of fun p hp => ⟨off p hp, (below _ (Heap.lt_size (N p hp).1)).1, (below _ (Heap.lt_size (N p hp).1)).2⟩
  have hst₁ : St 0 h₁ := W.frame _ _ _ hst fun b _ o e => old b o e
  have run := loop H2.objs.size s₂.heap.objs.size (compPost (model prog w) A E none Q (.ref s₂.heap.objs.size) H2.objs.size) { s₂ with heap := h₁, toks := s₂.toks + ([] : List (Str × Value)).length } G
    ⟨0, h₁, s₂.gens, _, [], _, news, rfl, Nat.zero_le _, rfl, rfl, hst₁, F.keeps old, hns₁, List.forall_mem_cons.mpr ⟨⟨hacc, G.hDL, hD₀⟩, fun p hp => ⟨old _ _ (N p hp).1, (N p hp).2⟩⟩, off₀, h0⟩
    (fun h gs tk ys m' news' F' hn' N' off' hJ => ⟨m', hn', fun h'' hs'' => done _ ys news' gs h'' tk hJ (F'.change hs'' G.hCL hC₀) (List.forall_mem_cons.mpr ⟨⟨hs''.extBut _ _ hDC (N' _ (.head _)).1, (N' _ (.head _)).2⟩, fun p hp => ⟨hs''.extBut _ _ (off'.mem p hp).2.1 (N' p (.tail _ hp)).1, (N' p (.tail _ hp)).2⟩⟩) off'.one⟩)
  exact codeAny_compStart_list run (W.self 0 _ _ _ hst₁ run)

/-- the loop of a comprehension over one name -/
theorem comp_name {elt iter : Expr} {x : Str} {px : Pos} {scope : Scope} {cl : List (Str × Addr)} {pos : Pos} {I : Addr} {fp : List Addr} {n : Nat} {P : Nat → Value → Prop} {St : Nat → Heap → Prop} {J : Nat → List Value → List (Addr × Obj) → Array GenState → Prop} {d : Drawn} {os : OsState}
    (hkind : scope.kind = .function) (hx : scope.names.lookup x = some .local)
    (turn : CompTurn prog w A h₀ L m d os env elt scope cl n (fun _ v m₂ => m₂ x = some v) P J) (C D : Addr) (R : Result → Shared → Prop) (s₃ : Shared) (G : CompGround prog w A h₀ L I C D fp n P St J) (hInv : CompInv h₀ L m d os I C D n St J (n + 1) s₃)
    (hend : ∀ h gs tk ys m' news, Fr h₀ L h m → h.Ns C m' → News h₀ L h ((D, lst ys) :: news) → Off3 I C D news → J n ys news gs → R (.ok .next) ⟨h, gs, d, tk, os⟩) :
    codeAny (model prog w) A (.compLoop (.ListComp elt [⟨.Name x px, iter, [], 0⟩] scope pos) 0 (.ref I) (.ref D) (compEnvC scope cl C env)) R s₃ := by
  refine codeAny_compLoop_tests (CompInv h₀ L m d os I C D n St J) (fun k s' hI => ?_) (n + 1) hInv
  refine comp_head G hI (fun i v h gs tk ys m' news hi hk hP hyl hst F hn N off hJ => ?_) hend
  subst hk
  refine wpAny_assign_Name (wpAny_storeName_local (lookup_relabel_local hx) hn (fun h₃ hn₃ hs₃ => ?_) (by simp [compEnvC, relabel, hkind]))
  refine wpAny_tests_nil ?_
  simp only [if_true]
  refine comp_after G turn hi hP hJ hyl (G.W.frame _ _ _ hst fun b hb o e => hs₃.extBut b o (fun q => G.hCf (by have q' : b = C := q; rw [← q']; exact hb)) e) (F.change hs₃ G.hCL G.hC₀) hn₃ (by simp) (fun p hp => ?_) off
  refine ⟨hs₃.extBut _ _ ?_ (N p hp).1, (N p hp).2⟩
  rcases List.mem_cons.mp hp with rfl | hp
  · exact Ne.symm G.hCD
  · exact (off.mem p hp).2.1

/-- the loop of a comprehension over three names, where the items are tuples -/
theorem comp_three {elt iter : Expr} {x y z : Str} {px py pz tp : Pos} {tn} {scope : Scope} {cl : List (Str × Addr)} {pos : Pos} {I : Addr} {fp : List Addr} {n : Nat} {P : Nat → Value → Prop} {St : Nat → Heap → Prop} {J : Nat → List Value → List (Addr × Obj) → Array GenState → Prop} {d : Drawn} {os : OsState}
    (T : Nat → Addr → Value → Value → Value → Prop)
    (hkind : scope.kind = .function) (hx : scope.names.lookup x = some .local) (hy : scope.names.lookup y = some .local) (hz : scope.names.lookup z = some .local) (hxy : x ≠ y) (hxz : x ≠ z) (hyz : y ≠ z) (hh : A.handled = none)
    (hit : ∀ i h, St i h → ∃ l j, h.IsListIter I l j)
    (hT : ∀ i v ys news gs, P i v → J i ys news gs → ∃ t a b c ot nt, v = .ref t ∧ T i t a b c ∧ (t, ot) ∈ news ∧ ot.cls = .type "tuple" ∧ ot.data = .seq #[a, b, c] nt)
    (turn : CompTurn prog w A h₀ L m d os env elt scope cl n (fun i v m₂ => ∃ t a b c, v = .ref t ∧ T i t a b c ∧ m₂ x = some a ∧ m₂ y = some b ∧ m₂ z = some c) P J) (C D : Addr) (R : Result → Shared → Prop) (s₃ : Shared) (G : CompGround prog w A h₀ L I C D fp n P St J) (hInv : CompInv h₀ L m d os I C D n St J (n + 1) s₃)
    (hend : ∀ h gs tk ys m' news, Fr h₀ L h m → h.Ns C m' → News h₀ L h ((D, lst ys) :: news) → Off3 I C D news → J n ys news gs → R (.ok .next) ⟨h, gs, d, tk, os⟩) :
    codeAny (model prog w) A (.compLoop (.ListComp elt [⟨.Tuple [.Name x px, .Name y py, .Name z pz] tn tp, iter, [], 0⟩] scope pos) 0 (.ref I) (.ref D) (compEnvC scope cl C env)) R s₃ := by
  refine LCp.codeAny_compLoop_pair (CompInv h₀ L m d os I C D n St J) (fun k s' hI => ?_) (n + 1) hInv
  refine comp_head G hI (fun i v h gs tk ys m' news hi hk hP hyl hst F hn N off hJ => ?_) hend
  subst hk
  obtain ⟨t, a, b, c, ot, nt, rfl, hTi, hmt, hct, hdt⟩ := hT i v ys news gs hP hJ
  obtain ⟨lI, jI, hLi⟩ := hit _ _ hst
  refine wpAny_letOwnedTupleGo_listiter hLi ?_
  refine assign_Tuple_tuple hh (items := #[a, b, c]) ⟨ot, (N _ (.tail _ hmt)).1, hct, nt, hdt⟩ rfl rfl fun h₅ he => ?_
  have he' : ∀ b o, h.get? b = some o → h₅.get? b = some o := fun b o e => he b o (Nat.ne_of_lt (Heap.lt_size e)) e
  have st : ∀ {x : Str} {px : Pos} {v : Value} {hh mm} {Q : Unit → Shared → Prop} {s' : Shared} {E'}, s'.heap = hh → scope.names.lookup x = some .local → hh.Ns C mm → (∀ h₁, h₁.Ns C (fun u => if u = x then some v else mm u) → Heap.SameBut C hh h₁ → Q () { s' with heap := h₁, toks := s'.toks + 1 }) →
      wpAny (model prog w) A (assign (.Name x px) (compEnvC scope cl C env) v) Q E' s' := fun {x px v hh mm Q s' E'} e hl hn hQ => by
    subst e
    exact wpAny_assign_Name (wpAny_storeName_local (lookup_relabel_local hl) hn (fun h₁ hn₁ hs₁ => hQ h₁ hn₁ hs₁) (by simp [compEnvC, relabel, hkind]))
  refine assignInOrder_cons (st rfl hx (hn.at' fun o e => he' _ o e) fun h₆ hn₆ hs₆ => ?_)
  refine assignInOrder_cons (st rfl hy hn₆ fun h₇ hn₇ hs₇ => ?_)
  refine assignInOrder_cons (st rfl hz hn₇ fun h₃ hn₃ hs₃ => ?_)
  refine assignInOrder_nil ?_
  have old3 : ∀ b o, b ≠ C → h.get? b = some o → h₃.get? b = some o := fun b o hb e => hs₃.extBut b o hb (hs₇.extBut b o hb (hs₆.extBut b o hb (he' b o e)))
  refine comp_after G turn hi hP hJ hyl (G.W.frame _ _ _ hst fun b hb o e => old3 b o (fun q => G.hCf (by rw [← q]; exact hb)) e) ((((F.keeps he').change hs₆ G.hCL G.hC₀).change hs₇ G.hCL G.hC₀).change hs₃ G.hCL G.hC₀) hn₃ ⟨t, a, b, c, rfl, hTi, by simp [hxy, hxz], by simp [hyz], by simp⟩ (fun p hp => ?_) off
  refine ⟨old3 _ _ ?_ (N p hp).1, (N p hp).2⟩
  rcases List.mem_cons.mp hp with rfl | hp
  · exact Ne.symm G.hCD
  · exact (off.mem p hp).2.1

/-- the iterable of a comprehension is a range -/
def RangeSrc (prog : Program) (w : World) (A : Around) (h₀ : Heap) (L : Addr) (m : Str → Option Value) (env : Env) (elt : Expr) (x : Str) (scope : Scope) (cl : List (Str × Addr)) (Q : Value → Shared → Prop) (xv : Value) (s₁ : Shared) : Prop :=
  ∃ (r : Addr) (a b st : Int) (t u v : Tok) (n : Nat) (news : List (Addr × Obj)) (J : Nat → List Value → List (Addr × Obj) → Array GenState → Prop), xv = .ref r ∧ A.handled = none ∧ Fr h₀ L s₁.heap m ∧ News h₀ L s₁.heap news ∧ IsRange s₁.heap r a b st t u v ∧ Builtin.Range.small a b st = true ∧
    Builtin.Range.rangeSize a b st = ((n : Nat) : Int) ∧ n ≤ sizeLine ∧ J 0 [] news s₁.gens ∧ CompTurn prog w A h₀ L m s₁.drawn s₁.os env elt scope cl n (fun _ v m₂ => m₂ x = some v) (fun i v => ∃ t, v = .int (a + i * st) t) J ∧
    (∀ D ys news gs h tk, J n ys news gs → Fr h₀ L h m → News h₀ L h ((D, lst ys) :: news) → Off1 D news → Q (.ref D) ⟨h, gs, s₁.drawn, tk, s₁.os⟩)
theorem comp_range {elt iter : Expr} {x : Str} {px : Pos} {scope : Scope} {cl : List (Str × Addr)} {pos : Pos} {Q : Value → Shared → Prop} (_F₀ : Fr h₀ L s.heap m)
    (hclos : closureFor scope env = pure cl) (hcell : ∀ y ∈ scope.names, y.2 ≠ .cell) (hkind : scope.kind = .function)
    (hnames : ∀ y ∈ scope.names, y.2 = .local → scope.names.lookup y.1 = some .local) (hx : scope.names.lookup x = some .local)
    (h : wpAny (model prog w) A (eval iter env) (RangeSrc prog w A h₀ L m env elt x scope cl Q) E s)
    (hs : ∀ x, foldedSetIterable iter env x = pure x := by intro _; rfl) :
    wpAny (model prog w) A (eval (.ListComp elt [⟨.Name x px, iter, [], 0⟩] scope pos) env) Q E s := by
  rw [eval_ListComp]
  refine wpAny_comprehension_free (use := none) rfl hs hclos hkind hnames (wpAny_mono h (fun xv s₁ h₁ => ?_) fun _ _ e => e)
  obtain ⟨r, a, b, st, t, u, v, n, news, J, rfl, hh, F, N, hr, hsm, hn, hsz, h0, turn, done⟩ := h₁
  refine wpAny_pyIter_range hr hsm ?_
  refine comp_block (J := J) (Walks.range hh s₁.heap.objs.size a st n) hsz (fun i h st => ⟨_, st⟩) (fun b hb hne => absurd (List.mem_singleton.mp hb) hne) hcell hkind (by show IsRangeIter _ _ _ _ _; rw [hn]; simpa using Heap.get?_push_size _ rfl) (fun b hb => ?_)
    (F.keeps fun _ _ e => Heap.get?_push_of_some _ e) (N.grown fun _ _ e => Heap.get?_push_of_some _ e) (Ne.symm (Nat.ne_of_lt F.ns.lt)) (next_is_new F) (fun p hp => Nat.ne_of_lt (Heap.lt_size (N p hp).1)) h0 (fun C D R s₃ G hI hend => comp_name hkind hx turn C D R s₃ G hI hend) done
  rw [List.mem_singleton.mp hb]
  show s₁.heap.objs.size < (s₁.heap.push _).objs.size
  rw [Heap.size_push]; exact Nat.lt_succ_self _

theorem comp_list_core {target : Expr} {elt iter : Expr} {scope : Scope} {cl : List (Str × Addr)} {pos : Pos} {Q : Value → Shared → Prop} {a : Addr} {vs : List Value} {k : Nat} {news : List (Addr × Obj)} {J : Nat → List Value → List (Addr × Obj) → Array GenState → Prop} {s₁ : Shared}
    (hcell : ∀ y ∈ scope.names, y.2 ≠ .cell) (hkind : scope.kind = .function) (hh : A.handled = none) (F : Fr h₀ L s₁.heap m) (N : News h₀ L s₁.heap news) (hz : vs.length < 2 ^ 20)
    (hm : ∀ i ys news gs, J i ys news gs → (a, listOf vs.toArray k) ∈ news) (h0 : J 0 [] news s₁.gens)
    (loop : ∀ (C D I : Addr) (R : Result → Shared → Prop) (s₃ : Shared), CompGround prog w A h₀ L I C D [I, a] vs.length (fun i v => vs[i]? = some v) (fun i h => h.IsListIter I a i ∧ h.IsList a vs.toArray) J → CompInv h₀ L m s₁.drawn s₁.os I C D vs.length (fun i h => h.IsListIter I a i ∧ h.IsList a vs.toArray) J (vs.length + 1) s₃ →
      (∀ h gs tk ys m' news, Fr h₀ L h m → h.Ns C m' → News h₀ L h ((D, lst ys) :: news) → Off3 I C D news → J vs.length ys news gs → R (.ok .next) ⟨h, gs, s₁.drawn, tk, s₁.os⟩) →
      codeAny (model prog w) A (.compLoop (.ListComp elt [⟨target, iter, [], 0⟩] scope pos) 0 (.ref I) (.ref D) (compEnvC scope cl C env)) R s₃)
    (done : ∀ D ys news gs h tk, J vs.length ys news gs → Fr h₀ L h m → News h₀ L h ((D, lst ys) :: news) → Off1 D news → Q (.ref D) ⟨h, gs, s₁.drawn, tk, s₁.os⟩) :
    wpAny (model prog w) A (pyIter (.ref a)) (fun it s₂ => wpAny (model prog w) A (newList []) (fun acc s₃ => wpAny (model prog w) A (newFunctionEnv scope env.globals cl [] env.qual none .none (some env)) (fun cenv s₄ =>
      codeAny (model prog w) A (.compStart (.ListComp elt [⟨target, iter, [], 0⟩] scope pos) 0 it acc { cenv with scope := relabel scope env }) (compPost (model prog w) A E none Q acc cenv.locals) s₄) E s₃) E s₂) E s₁ := by
  have hol := (N _ (hm _ _ _ _ h0)).1
  have hls : s₁.heap.IsList a vs.toArray := ⟨_, hol, rfl, k, rfl⟩
  have hne : a ≠ s₁.heap.objs.size := Nat.ne_of_lt (Heap.lt_size hol)
  refine wpAny_pyIter_list hls ?_
  have W0 : Walks prog w A s₁.heap.objs.size [s₁.heap.objs.size, a] [s₁.heap.objs.size] vs.length (fun i v => vs[i]? = some v) (fun i h => h.IsListIter s₁.heap.objs.size a i ∧ h.IsList a vs.toArray) := by
    have W := Walks.list (prog := prog) (w := w) (A := A) hh s₁.heap.objs.size a hne vs.toArray
    simpa using W
  refine comp_block (J := J) W0 (by rw [sizeLine_eq]; omega) (fun i h st => by obtain ⟨o, e, _⟩ := st.1; exact ⟨o, e⟩) (fun b hb hbn => ?_) hcell hkind ⟨⟨_, Heap.get?_push_size _ rfl, rfl, rfl⟩, hls.push _⟩ (fun b hb => ?_)
    (F.keeps fun _ _ e => Heap.get?_push_of_some _ e) (N.grown fun _ _ e => Heap.get?_push_of_some _ e) (Ne.symm (Nat.ne_of_lt F.ns.lt)) (next_is_new F) (fun p hp => Nat.ne_of_lt (Heap.lt_size (N p hp).1)) h0 (fun C D R s₃ G hI hend => loop C D _ R s₃ G hI hend) done
  · have : b = a := by
      rcases List.mem_cons.mp hb with e | hb
      · exact absurd e hbn
      · exact List.mem_singleton.mp hb
    subst this
    exact ⟨_, fun i ys news gs h hJ _ N' => (N' _ (hm _ _ _ _ hJ)).1⟩
  · show b < (s₁.heap.push _).objs.size
    rw [Heap.size_push]
    rcases List.mem_cons.mp hb with rfl | hb
    · exact Nat.lt_succ_self _
    · rw [List.mem_singleton.mp hb]; exact Nat.lt_succ_of_lt (Heap.lt_size hol)
end

section
variable {prog : Program} {w : World} {A : Around} {E : Value → Shared → Prop} {s : Shared} {h₀ : Heap} {L : Addr} {m : Str → Option Value} {env : Env}
/-- the iterable of a comprehension over one name is a list in the ledger -/
def ListSrc1 (prog : Program) (w : World) (A : Around) (h₀ : Heap) (L : Addr) (m : Str → Option Value) (env : Env) (elt : Expr) (x : Str) (scope : Scope) (cl : List (Str × Addr)) (Q : Value → Shared → Prop) (xv : Value) (s₁ : Shared) : Prop :=
  ∃ (a : Addr) (vs : List Value) (k : Nat) (news : List (Addr × Obj)) (J : Nat → List Value → List (Addr × Obj) → Array GenState → Prop), xv = .ref a ∧ A.handled = none ∧ Fr h₀ L s₁.heap m ∧ News h₀ L s₁.heap news ∧ vs.length < 2 ^ 20 ∧
    (∀ i ys news gs, J i ys news gs → (a, listOf vs.toArray k) ∈ news) ∧ J 0 [] news s₁.gens ∧
    CompTurn prog w A h₀ L m s₁.drawn s₁.os env elt scope cl vs.length (fun _ v m₂ => m₂ x = some v) (fun i v => vs[i]? = some v) J ∧
    (∀ D ys news gs h tk, J vs.length ys news gs → Fr h₀ L h m → News h₀ L h ((D, lst ys) :: news) → Off1 D news → Q (.ref D) ⟨h, gs, s₁.drawn, tk, s₁.os⟩)
theorem comp_list1 {elt iter : Expr} {x : Str} {px : Pos} {scope : Scope} {cl : List (Str × Addr)} {pos : Pos} {Q : Value → Shared → Prop} (_F₀ : Fr h₀ L s.heap m)
    (hclos : closureFor scope env = pure cl) (hcell : ∀ y ∈ scope.names, y.2 ≠ .cell) (hkind : scope.kind = .function)
    (hnames : ∀ y ∈ scope.names, y.2 = .local → scope.names.lookup y.1 = some .local) (hx : scope.names.lookup x = some .local)
    (h : wpAny (model prog w) A (eval iter env) (ListSrc1 prog w A h₀ L m env elt x scope cl Q) E s)
    (hs : ∀ x, foldedSetIterable iter env x = pure x := by intro _; rfl) :
    wpAny (model prog w) A (eval (.ListComp elt [⟨.Name x px, iter, [], 0⟩] scope pos) env) Q E s := by
  rw [eval_ListComp]
  refine wpAny_comprehension_free (use := none) rfl hs hclos hkind hnames (wpAny_mono h (fun xv s₁ h₁ => ?_) fun _ _ e => e)
  obtain ⟨a, vs, k, news, J, rfl, hh, F, N, hz, hm, h0, turn, done⟩ := h₁
  exact comp_list_core hcell hkind hh F N hz hm h0 (fun C D I R s₃ G hI hend => comp_name hkind hx turn C D R s₃ G hI hend) done
theorem listsrc1_pure {elt : Expr} {x : Str} {scope : Scope} {cl : List (Str × Addr)} {Q : Value → Shared → Prop} {s₁ : Shared} {a : Addr} {vs : List Value} {k : Nat} {news : List (Addr × Obj)} (hh : A.handled = none) (F : Fr h₀ L s₁.heap m) (N : News h₀ L s₁.heap news) (hm : (a, listOf vs.toArray k) ∈ news) (hz : vs.length < 2 ^ 20)
    (Y : Nat → List Value → Prop) (h0 : Y 0 []) (turn : CompTurn prog w A h₀ L m s₁.drawn s₁.os env elt scope cl vs.length (fun _ v m₂ => m₂ x = some v) (fun i v => vs[i]? = some v) (fun i ys nw gs => nw = news ∧ gs = s₁.gens ∧ Y i ys))
    (done : ∀ D ys h tk, Y vs.length ys → Fr h₀ L h m → News h₀ L h ((D, lst ys) :: news) → Off1 D news → Q (.ref D) { s₁ with heap := h, toks := tk }) : ListSrc1 prog w A h₀ L m env elt x scope cl Q (.ref a) s₁ :=
  ⟨a, vs, k, news, fun i ys nw gs => nw = news ∧ gs = s₁.gens ∧ Y i ys, rfl, hh, F, N, hz, fun _ _ _ _ h => by rw [h.1]; exact hm, ⟨rfl, rfl, h0⟩, turn, fun D ys nw gs h tk hJ F' N' off => by
    obtain ⟨rfl, rfl, hY⟩ := hJ
    exact done D ys h tk hY F' N' off⟩
/-- the iterable of a comprehension over three names is a list in the ledger, of tuples -/
def ListSrc3 (prog : Program) (w : World) (A : Around) (h₀ : Heap) (L : Addr) (m : Str → Option Value) (env : Env) (elt : Expr) (x y z : Str) (scope : Scope) (cl : List (Str × Addr)) (Q : Value → Shared → Prop) (xv : Value) (s₁ : Shared) : Prop :=
  ∃ (a : Addr) (vs : List Value) (k : Nat) (news : List (Addr × Obj)) (T : Nat → Addr → Value → Value → Value → Prop) (J : Nat → List Value → List (Addr × Obj) → Array GenState → Prop), xv = .ref a ∧ A.handled = none ∧ Fr h₀ L s₁.heap m ∧ News h₀ L s₁.heap news ∧ vs.length < 2 ^ 20 ∧
    (∀ i ys news gs, J i ys news gs → (a, listOf vs.toArray k) ∈ news) ∧ J 0 [] news s₁.gens ∧
    (∀ i v ys news gs, vs[i]? = some v → J i ys news gs → ∃ t a b c ot nt, v = .ref t ∧ T i t a b c ∧ (t, ot) ∈ news ∧ ot.cls = .type "tuple" ∧ ot.data = .seq #[a, b, c] nt) ∧
    CompTurn prog w A h₀ L m s₁.drawn s₁.os env elt scope cl vs.length (fun i v m₂ => ∃ t a b c, v = .ref t ∧ T i t a b c ∧ m₂ x = some a ∧ m₂ y = some b ∧ m₂ z = some c) (fun i v => vs[i]? = some v) J ∧
    (∀ D ys news gs h tk, J vs.length ys news gs → Fr h₀ L h m → News h₀ L h ((D, lst ys) :: news) → Off1 D news → Q (.ref D) ⟨h, gs, s₁.drawn, tk, s₁.os⟩)
theorem comp_list3 {elt iter : Expr} {x y z : Str} {px py pz tp : Pos} {tn} {scope : Scope} {cl : List (Str × Addr)} {pos : Pos} {Q : Value → Shared → Prop} (_F₀ : Fr h₀ L s.heap m)
    (hclos : closureFor scope env = pure cl) (hcell : ∀ y ∈ scope.names, y.2 ≠ .cell) (hkind : scope.kind = .function)
    (hnames : ∀ y ∈ scope.names, y.2 = .local → scope.names.lookup y.1 = some .local) (hx : scope.names.lookup x = some .local) (hy : scope.names.lookup y = some .local) (hz : scope.names.lookup z = some .local) (hxy : x ≠ y) (hxz : x ≠ z) (hyz : y ≠ z)
    (h : wpAny (model prog w) A (eval iter env) (ListSrc3 prog w A h₀ L m env elt x y z scope cl Q) E s)
    (hs : ∀ x, foldedSetIterable iter env x = pure x := by intro _; rfl) :
    wpAny (model prog w) A (eval (.ListComp elt [⟨.Tuple [.Name x px, .Name y py, .Name z pz] tn tp, iter, [], 0⟩] scope pos) env) Q E s := by
  rw [eval_ListComp]
  refine wpAny_comprehension_free (use := none) rfl hs hclos hkind hnames (wpAny_mono h (fun xv s₁ h₁ => ?_) fun _ _ e => e)
  obtain ⟨a, vs, k, news, T, J, rfl, hh, F, N, hlen, hm, h0, hT, turn, done⟩ := h₁
  exact comp_list_core hcell hkind hh F N hlen hm h0 (fun C D I R s₃ G hI hend => comp_three T hkind hx hy hz hxy hxz hyz hh (fun i h st => ⟨_, _, st.1⟩) hT turn C D R s₃ G hI hend) done
theorem small_pos {b c : Nat} (hc : 1 ≤ c) (hc2 : c < 2 ^ 20) (hb : b < 2 ^ 20) : Builtin.Range.small 0 (b : Int) (c : Int) = true := by
  have h1 := rangeSize_toNat_le 0 (b : Int) (c : Int)
  have h2 := rangeSize_toNat 0 (b : Int) (c : Int)
  unfold Builtin.Range.small
  generalize Builtin.Range.rangeSize 0 (b : Int) (c : Int) = r at h1 h2
  have hc0 : ((c : Nat) : Int) > 0 := by omega
  rw [if_pos hc0]
  simp only [Builtin.Range.rangeFitsLong, Bool.and_eq_true, Bool.or_eq_true, decide_eq_true_eq, beq_iff_eq]
  refine ⟨⟨⟨⟨by omega, by omega⟩, by omega⟩, by omega⟩, .inr (by omega)⟩
theorem size_pos {b c : Nat} (hc : 1 ≤ c) (hb : 1 ≤ b) : Builtin.Range.rangeSize 0 (b : Int) (c : Int) = (((b - 1) / c + 1 : Nat) : Int) := by
  unfold Builtin.Range.rangeSize
  rw [if_pos (by omega), if_pos (by omega)]
  have e : (b : Int) - 0 - 1 = ((b - 1 : Nat) : Int) := by omega
  rw [e]
  rfl
end
end Mine
namespace Mine
open PySem PySem.Spec PySem.Calls PyProof.Rows PySem.W PyProof.V
section
variable {prog : Program} {w : World} {A : Around} {E : Value → Shared → Prop} {s : Shared} {h₀ : Heap} {L : Addr} {m : Str → Option Value} {news n₁ n₂ : List (Addr × Obj)} {a b : Value} {d : Dat} {Q : Value → Shared → Prop}
/-- two data that are alike, compared -/
theorem dat_ne (N : News h₀ L s.heap news) (Da : DatIn n₁ a d) (sa : ∀ p ∈ n₁, p ∈ news) (Db : DatIn n₂ b d) (sb : ∀ p ∈ n₂, p ∈ news) (hk : kqdOk 8 d = true) (hu : A.units + 64 < cLine) (h : Q (.bool false) s) : wpAny (model prog w) A (compareOp .NotEq a b) Q E s := by
  obtain ⟨as, ra⟩ := kqd_in N 8 (Da.mono sa) hk
  obtain ⟨bs, rb⟩ := kqd_in N 8 (Db.mono sb) hk
  have l := kqd_lay 8 d hk
  have e : PyData.eqv (kqdP d) (kqdP d) = true := (kqd_eqv 8 d d 8 hk hk).mpr rfl
  have sh : SeqAt.shaped (kqdP d) = true := by
    unfold SeqAt.shaped
    rw [l.1, Bool.true_and]
    exact decide_eq_true (Nat.le_trans l.2 (by decide))
  exact ne_dataH ra rb sh sh hu (by rw [e]; exact h)
theorem dat_eq (N : News h₀ L s.heap news) (Da : DatIn n₁ a d) (sa : ∀ p ∈ n₁, p ∈ news) (Db : DatIn n₂ b d) (sb : ∀ p ∈ n₂, p ∈ news) (hk : kqdOk 8 d = true) (hu : A.units + 64 < cLine) (h : Q (.bool true) s) : wpAny (model prog w) A (compareOp .Eq a b) Q E s := by
  obtain ⟨as, ra⟩ := kqd_in N 8 (Da.mono sa) hk
  obtain ⟨bs, rb⟩ := kqd_in N 8 (Db.mono sb) hk
  have l := kqd_lay 8 d hk
  have e : PyData.eqv (kqdP d) (kqdP d) = true := (kqd_eqv 8 d d 8 hk hk).mpr rfl
  have sh : SeqAt.shaped (kqdP d) = true := by
    unfold SeqAt.shaped
    rw [l.1, Bool.true_and]
    exact decide_eq_true (Nat.le_trans l.2 (by decide))
  exact eq_dataH ra rb sh sh hu (by rw [e]; exact h)
end
section
variable {prog : Program} {w : World} {A : Around} {E : Value → Shared → Prop} {s : Shared} {h₀ : Heap} {L D : Addr} {m : Str → Option Value} {news : List (Addr × Obj)} {vs : List Value} {n : Nat} {t u ui uj : Tok} {Q : Value → Shared → Prop} {value slice : PySem.Expr} {o : Obj}
theorem pick_le {j : Nat} : slicePick vs.toArray none (some (j : Int)) none = (vs.take j).toArray := by
  by_cases hj : j ≤ vs.length
  · exact pick_to hj
  · have e : sliceBounds none (some (j : Int)) none vs.toArray.size = (((0 : Nat) : Int), ((vs.length : Nat) : Int), 1) := by
      have h1 : ¬ ((j : Int) < 0) := by omega
      have h2 : max (0 : Int) (min (j : Int) (vs.length : Int)) = (vs.length : Int) := by omega
      simp [sliceBounds, h1, h2]
    rw [kmk_pick_nat _ e, List.take_of_length_le (show vs.length ≤ j by omega)]
    simp
/-- the script's first items -/
theorem cut_script {j : Nat} (F : Fr h₀ L s.heap m) (N : News h₀ L s.heap news) (hm : (D, o) ∈ news) (hc : o.cls = .type "list") (hd : o.data = .seq vs.toArray n) (hl : vs.length < 2 ^ 20)
    (h : ∀ D' h', Fr h₀ L h' m → News h₀ L h' ((D', listOf (vs.take j).toArray 0) :: news) → (∀ p ∈ news, p.1 < D') → Q (.ref D') { s with heap := h' })
    (hs : subscripted slice false (.ref D) (.ref s.heap.objs.size) = operate [.ref s.heap.objs.size, .ref D] (getItem (.ref D) (.ref s.heap.objs.size)) := by with_unfolding_all rfl) (ht : ∀ r, letTemporaryGo value (.ref D) r = pure () := by intro _; with_unfolding_all rfl) :
    wpAny (model prog w) A (subscriptTail value slice (.ref D) (.ref s.heap.objs.size)) Q E { s with heap := s.heap.push { cls := .type "slice", data := .fields #[.none, .int (j : Nat) uj, .none] } } := by
  refine kmk_slice F N ⟨_, (N _ hm).1, hc, _, hd⟩ (lo := none) (hi := some (j : Int)) .none (.int _ _) ?_ hs ht (by rw [List.size_toArray, sizeLine_eq]; omega)
  rw [pick_le]
  exact h
end
end Mine
namespace Mine
open PySem PySem.Spec PySem.Calls PyProof.Rows PySem.W
theorem meta_tuple' : typeOf (.type "tuple") = pure (.type "type") := by kernel_rfl
local macro_rules | `(tactic| walk_at "news in") => `(tactic| first | (with_reducible exact sub_self) | (with_reducible exact sub_nil) | ((with_reducible refine sub_cons ?a1 ?a2); (case a1 => k_mem); (case a2 => walk_at "news in")) | ((with_reducible refine sub_app ?a1 ?a2); (case a1 => walk_at "news in"); (case a2 => walk_at "news in")) | ((with_reducible refine sub_skip ?_); walk_at "news in") | ((with_reducible refine sub_appL ?_); walk_at "news in") | ((with_reducible refine sub_appR ?_); walk_at "news in"))
local macro_rules | `(tactic| k_room) => `(tactic| ktr_room)
local macro_rules | `(tactic| walk_at "my room") => `(tactic| ((try dsimp only); first | ktr_room | omega))
local macro_rules | `(tactic| walk_at "my units") => `(tactic| ((try dsimp only); first | ktr_units | omega))
local macro_rules | `(tactic| walk_at "my given") => `(tactic| ((case hh => first | exact rfl | assumption); (case F => k_asm); (case X => k_asm); (case N => k_asm); (case T => k_asm); (case hs => walk_at "news in"); (case hd => walk_at "my room"); (case hu => walk_at "my units")))
local macro_rules | `(tactic| walk_at "getMethod type:tuple") => `(tactic| (k_here; refine' method_type ?F ?X ?m (by decide +kernel) ?e ?h ?_; (case F => k_asm); (case X => k_asm); (case m => exact meta_tuple'); (case e => k_dflt k_is); (case h => k_handed)))

theorem chk_tnew (w : World) (t : Addr) : peek (hd.heap_39 w.params) ⟨PySem.Challenge.rw_fe0297_01.row.prog, w.params⟩ (checkBuiltinCall "tuple.__new__" ⟨[.ref 135, .ref t], []⟩) = some () := by
  kernel_rfl

abbrev ctObj (dx : Addr) (v1 v2 v3 : Value) : Obj := ⟨.ref 135, some dx, .seq #[v1, v2, v3] 0, #[]⟩
section
variable {w : World} {A : Around} {E : Value → Shared → Prop} {s : Shared} {h₀ : Heap} {L t : Addr} {m : Str → Option Value} {news : List (Addr × Obj)} {v1 v2 v3 : Value} {n : Nat} {Q : Value → Shared → Prop}
theorem tnew_call (F : Fr h₀ L s.heap m) (X₀ : (hd.heap_39 w.params).In h₀) (N : News h₀ L s.heap news) (hm : (t, (⟨.type "tuple", none, .seq #[v1, v2, v3] n, #[]⟩ : Obj)) ∈ news)
    (h : ∀ x dx h', Fr h₀ L h' m → News h₀ L h' ((x, ctObj dx v1 v2 v3) :: (dx, emptyDict) :: news) → Q (.ref x) { s with heap := h' }) :
    wpAny (model PySem.Challenge.rw_fe0297_01.row.prog w) A (call (.builtin "tuple.__new__") [.ref 135, .ref t]) Q E s := by
  refine wpAny_call (codeAny_call_builtin PySem.F.plain_tuple_new PySem.F.entry_tuple_new ?_)
  have X := X₀.keeps F.keep
  obtain ⟨hh, g, d, tk, os⟩ := s
  have ho := (N _ hm).1
  refine (Looks.of_peek (M := model PySem.Challenge.rw_fe0297_01.row.prog w) X (chk_tnew w t)).at ?_
  have L1 : Looks (model PySem.Challenge.rw_fe0297_01.row.prog w) hh (isType (.ref 135)) true := Looks.of_peek X (by kernel_rfl)
  have L2 : Looks (model PySem.Challenge.rw_fe0297_01.row.prog w) hh (isSubtype (.ref 135) (.type "tuple")) true := Looks.of_peek X (by kernel_rfl)
  have L3 : Looks (model PySem.Challenge.rw_fe0297_01.row.prog w) hh (Bind.madeHere "tuple.__new__" (.ref 135)) () := Looks.of_peek X (by kernel_rfl)
  have L4 : Looks (model PySem.Challenge.rw_fe0297_01.row.prog w) hh (typeLookup (.ref 135) "__init__") (some (.builtin "object.__init__")) := Looks.of_peek X (by kernel_rfl)
  unfold Builtin.«tuple.__new__»
  generalize hC : @collect = C
  repeat lk
  subst hC
  refine wpAny_collect_seq (hsz := by show 3 ≤ sizeLine; decide) t (.inr rfl) ho rfl rfl fun h' hk => ?_
  have X' := X.keeps hk
  have F1 : Fr h₀ L h' m := F.keeps hk
  have N1 : News h₀ L h' news := fun p hp => ⟨hk _ _ (N p hp).1, (N p hp).2⟩
  have F2 := F1.push { cls := .type "dict", data := .dict #[] }
  have X2 : (hd.heap_39 w.params).In (h'.push { cls := .type "dict", data := .dict #[] }) := X'.keeps fun b o e => Heap.get?_push_of_some _ e
  have N2 : News h₀ L (h'.push emptyDict) ((h'.objs.size, emptyDict) :: news) := News.push F1 N1 _
  have h9 := h _ h'.objs.size _ (F2.push (ctObj h'.objs.size v1 v2 v3)) (News.push F2 N2 _)
  have X3 : (hd.heap_39 w.params).In ((h'.push { cls := .type "dict", data := .dict #[] }).push (ctObj h'.objs.size v1 v2 v3)) := X2.keeps fun b o e => Heap.get?_push_of_some _ e
  have L5 : Looks (model PySem.Challenge.rw_fe0297_01.row.prog w) ((h'.push { cls := .type "dict", data := .dict #[] }).push (ctObj h'.objs.size v1 v2 v3)) (classHasDel 135) false := Looks.of_peek X3 (by kernel_rfl)
  refine wpAny_bind (wpAny_pure (wpAny_bind (wpAny_alloc ?_)))
  refine wpAny_bind ?_
  show wpAny _ _ (newObjAsIs _ _ _) _ _ _
  unfold newObjAsIs
  refine wpAny_bind (wpAny_alloc (wpAny_bind (L5.at ?_)))
  exact wpAny_pure (wpAny_pure h9)
end

local macro_rules | `(tactic| walk_at "call builtin:tuple.__new__") => `(tactic| (k_here; k_dflt (refine' tnew_call ?F ?X ?N ?m ?_; (case F => k_asm); (case X => k_asm); (case N => k_asm); (case m => k_mem); k_whole; intro x' dx' h' F' N')))


theorem fill1 : ∀ (w : World) (h : Heap), (hd.heap_39 w.params).In h → PySem.Challenge.rw_fe0297_01.row.prog = PySem.Challenge.rw_fe0297_01.row.prog → True := by
  k_fill
  intros
  trivial
theorem new82 (w : World) {v1 v2 v3 : Value} : Raw PySem.Challenge.rw_fe0297_01.row.prog w (hd.heap_39 w.params) 82 [] [.ref 135, v1, v2, v3] 5 20 (Keep [] fun tl r => ∃ x dx, r = .ref x ∧ tl = [(x, ctObj dx v1 v2 v3), (dx, emptyDict)]) := by
  refine raw_of [(Str.ofString "_cls", .ref 135), (Str.ofString "unicode_version", v1), (Str.ofString "widths", v2), (Str.ofString "narrow_to_wide", v3)] (by k_is) (by k_is) (fun s X => BindsTo.of_eq rfl) (locs rfl) (by decide) rfl rfl rfl ?_
  intro dp un gd outer g L mg mb p loose s F X N T hd hu
  replace F : Fr g L s.heap (fun y => List.lookup y [(Str.ofString "narrow_to_wide", v3), (Str.ofString "widths", v2), (Str.ofString "unicode_version", v1), (Str.ofString "_cls", .ref 135)]) := F
  show wpAny _ _ _ _ _ _
  k_fold
  k_steps
  exact RetP.intro [_, _] (by assumption) (by assumption) (by walk_at "news in") ⟨_, _, rfl, rfl⟩

theorem call_ct (w : World) {v1 v2 v3 : Value} : Raw PySem.Challenge.rw_fe0297_01.row.prog w (hd.heap_39 w.params) 135 [] [v1, v2, v3] 8 30 (Keep [] fun tl r => ∃ x dx, r = .ref x ∧ tl = [(x, ctObj dx v1 v2 v3), (dx, emptyDict)]) := by
  intro A mg mb p loose s Q E hk X T hpre hD hU ret
  replace X : (hd.heap_39 w.params).In s.heap := X
  replace T : TopRead p loose mg mb s.heap := T
  replace ret : ∀ (r : Value) (nw : List (Addr × Obj)) (h' : Heap) (tk' : Nat) (gs' : Array GenState), (∀ (b : Addr) (o : Obj), s.heap.get? b = some o → h'.get? b = some o) → (∀ q ∈ nw, h'.get? q.1 = some q.2 ∧ s.heap.get? q.1 = none) → Keep [] (fun tl r => ∃ x dx, r = .ref x ∧ tl = [(x, ctObj dx v1 v2 v3), (dx, emptyDict)]) s.gens nw gs' r → Q r { s with heap := h', toks := tk', gens := gs' } := ret
  clear hpre
  refine wpAny_call ?_
  obtain ⟨hh, g, d, tk, os⟩ := s
  refine codeAny_of_tree ?_
  show wpAny _ _ (callAny (.ref 135) _) _ _ _
  refine nd_load (X 135 _ rfl) ?_
  show wpAny _ _ (callAny.viaDunder (.ref 135) _) _ _ _
  unfold callAny.viaDunder
  have L1 : Looks (model PySem.Challenge.rw_fe0297_01.row.prog w) hh (specialOf (.ref 135) "__call__") (some (.builtin "type.__call__")) := looks_specialIn X (by k_is)
  refine wpAny_bind (L1.at ?_)
  dsimp only
  rw [tc_bind]
  refine wpAny_bind (wpAny_pure (wpAny_bind (wpAny_pure ?_)))
  refine wpAny_pure (a := Fin.again (.call (.builtin "type.__call__") ⟨.ref 135 :: [v1, v2, v3], []⟩)) (And.intro rfl ?_)
  have L2 : Looks (model PySem.Challenge.rw_fe0297_01.row.prog w) hh (isInstance (.ref 135) (.type "type")) true := looks_instIn X (by k_is)
  refine codeAny_call_builtin_at (Code.quiet_builtin _ (by decide +kernel)) entry_typeCall (check_slot tc_kind tc_split L2 (tc_args _ _ _) ?_)
  have L3 : Looks (model PySem.Challenge.rw_fe0297_01.row.prog w) hh (Bind.madeBy (.ref 135)) none := Looks.of_peek X (by kernel_rfl)
  have L4 : Looks (model PySem.Challenge.rw_fe0297_01.row.prog w) hh (mroOf (.ref 135)) [.ref 135, .type "tuple", .type "object"] := Looks.of_peek X (by kernel_rfl)
  unfold Builtin.«type.__call__»
  generalize hG : @getAttr = G
  generalize hC : @call = C
  repeat lk
  subst hG hC
  refine cls_bind (mc := .type "type") (C := 135) (g := .builtin "staticmethod.__get__") (a := .ref 136) (obj := .none) (tp := .ref 135) X (by k_is) (by k_is) (wpAny_call (sm_get (s := { heap := hh, gens := g, drawn := d, toks := tk + 1, os := os }) X (f := .ref 82) (rest := []) (by k_is) (handed_on rfl ?_)))
  dsimp only
  refine wpAny_bind (wpAny_holding ?_)
  refine new82 w (v1 := v1) (v2 := v2) (v3 := v3) _ mg mb p loose _ _ _ hk X T (fun _ h => nomatch h) ?_ ?_ ?_
  · have e : (Code.builtin "type.__call__" ⟨[.ref 135, v1, v2, v3], []⟩).weight = 1 := rfl
    show A.depth + (Code.builtin "type.__call__" ⟨[.ref 135, v1, v2, v3], []⟩).weight + 5 < recursionLimit
    rw [e]; omega
  · have e : (Code.builtin "type.__call__" ⟨[.ref 135, v1, v2, v3], []⟩).cUnits = 1 := rfl
    show A.units + (Code.builtin "type.__call__" ⟨[.ref 135, v1, v2, v3], []⟩).cUnits + 20 < cLine
    rw [e]; omega
  · rintro r nw h' tk' gs' k kn ⟨rfl, tl, rfl, x, dx, rfl, rfl⟩
    replace k : ∀ b o, hh.get? b = some o → h'.get? b = some o := k
    replace kn : ∀ q ∈ [(x, ctObj dx v1 v2 v3), (dx, emptyDict)], h'.get? q.1 = some q.2 ∧ hh.get? q.1 = none := kn
    have hx : h'.get? x = some (ctObj dx v1 v2 v3) := (kn _ (.head _)).1
    have X' : (hd.heap_39 w.params).In h' := X.keeps k
    have M1 : Looks (model PySem.Challenge.rw_fe0297_01.row.prog w) h' (typeOf (.ref x)) (.ref 135) := (Looks.ld hx).andThen .now
    have M2 : Looks (model PySem.Challenge.rw_fe0297_01.row.prog w) h' (isInstance (.ref x) (.ref 135)) true := M1.andThen (Looks.of_peek X' (by kernel_rfl))
    have M3 : Looks (model PySem.Challenge.rw_fe0297_01.row.prog w) h' (specialOf (.ref x) "__init__") (some (.builtin "object.__init__")) := M1.andThen (Looks.of_peek X' (by kernel_rfl))
    have M4 : Looks (model PySem.Challenge.rw_fe0297_01.row.prog w) h' (typeLookup (.ref 135) "__init__") (some (.builtin "object.__init__")) := Looks.of_peek X' (by kernel_rfl)
    have M5 : Looks (model PySem.Challenge.rw_fe0297_01.row.prog w) h' (Bind.madeBy (.ref 135)) none := Looks.of_peek X' (by kernel_rfl)
    have M6 : Looks (model PySem.Challenge.rw_fe0297_01.row.prog w) h' (isInstance (.ref x) (.type "object")) true := M1.andThen (Looks.of_peek X' (by kernel_rfl))
    dsimp only
    unfold callSpecial?
    generalize hC : @call = C
    repeat lk
    subst hC
    refine wpAny_call ?_
    refine codeAny_call_builtin oi_plain entry_oi (@check_slot (model PySem.Challenge.rw_fe0297_01.row.prog w) _ _ _ "object.__init__" "object" "__init__" (.ref x) [v1, v2, v3] [] _ oi_kind oi_split M6 (by unfold argsOk; kernel_rfl) ?_)
    unfold Builtin.«object.__init__»
    repeat lk
    exact ret _ _ _ _ _ k kn ⟨rfl, _, rfl, x, dx, rfl, rfl⟩

/-- load('auto') -/
theorem load_gives (w : World) {u : Value} : Raw PySem.Challenge.rw_fe0297_01.row.prog w (hd.heap_39 w.params) 163 [] [u] 12 40 (Keep [] fun tl r => ∃ x dx t, r = .ref x ∧ tl = [(x, ctObj dx (.str (Str.ofString "narrow") t) (.ref 154) (.ref 155)), (dx, emptyDict)]) := by
  refine raw_of [(Str.ofString "unicode_version", u)] (by k_is) (by k_is) (fun s X => binds_K X rfl (by k_is) rfl rfl rfl) (locs rfl) (by decide) rfl rfl rfl ?_
  intro dp un gd outer g L mg mb p loose s F X N T hd hu
  replace F : Fr g L s.heap (fun y => List.lookup y [(Str.ofString "unicode_version", u)]) := F
  show wpAny _ _ _ _ _ _
  k_fold
  k_steps
  k_dflt (refine' Gives.use (call_ct w) ?hh ?F ?X ?N ?T ?hs ?hd ?hu ?_)
  walk_at "my given"
  rintro r tl h' tk' F' N' ⟨x, dx, rfl, rfl⟩
  simp only [List.cons_append, List.nil_append] at N'
  k_steps
  exact RetP.intro [_, _] (by assumption) (by assumption) (by walk_at "news in") ⟨_, _, _, rfl, rfl⟩
end Mine
namespace Mine
open PySem PySem.Spec PySem.Calls PyProof.Rows PySem.W
local macro_rules | `(tactic| walk_at "news in") => `(tactic| first | (with_reducible exact sub_self) | (with_reducible exact sub_nil) | ((with_reducible refine sub_cons ?a1 ?a2); (case a1 => k_mem); (case a2 => walk_at "news in")) | ((with_reducible refine sub_app ?a1 ?a2); (case a1 => walk_at "news in"); (case a2 => walk_at "news in")) | ((with_reducible refine sub_skip ?_); walk_at "news in") | ((with_reducible refine sub_appL ?_); walk_at "news in") | ((with_reducible refine sub_appR ?_); walk_at "news in"))
local macro_rules | `(tactic| k_room) => `(tactic| ktr_room)
local macro_rules | `(tactic| walk_at "my room") => `(tactic| ((try dsimp only); first | ktr_room | omega))
local macro_rules | `(tactic| walk_at "my units") => `(tactic| ((try dsimp only); first | ktr_units | omega))
local macro_rules | `(tactic| walk_at "my given") => `(tactic| ((case hh => first | exact rfl | assumption); (case F => k_asm); (case X => k_asm); (case N => k_asm); (case T => k_asm); (case hs => walk_at "news in"); (case hd => walk_at "my room"); (case hu => walk_at "my units")))
local macro_rules | `(tactic| walk_at "getMethod type:tuple") => `(tactic| (k_here; refine' method_type ?F ?X ?m (by decide +kernel) ?e ?h ?_; (case F => k_asm); (case X => k_asm); (case m => exact meta_tuple'); (case e => k_dflt k_is); (case h => k_handed)))
theorem fill2 : ∀ (w : World) (h : Heap), (hd.heap_39 w.params).In h → PySem.Challenge.rw_fe0297_01.row.prog = PySem.Challenge.rw_fe0297_01.row.prog → True := by
  k_fill
  intros
  trivial
section
variable {w : World} {A : Around} {E : Value → Shared → Prop} {s : Shared} {h₀ : Heap} {L x dx : Addr} {m : Str → Option Value} {news : List (Addr × Obj)} {v1 v2 v3 : Value} {Q : Value → Shared → Prop}
theorem type_ct (N : News h₀ L s.heap news) (hm : (x, ctObj dx v1 v2 v3) ∈ news) (h : Q (.ref 135) s) : wpAny (model PySem.Challenge.rw_fe0297_01.row.prog w) A (call (.type "type") [.ref x]) Q E s := by
  obtain ⟨hh, g, d, t, os⟩ := s
  exact call_type_obj (N _ hm).1 rfl h
theorem isn_peek (w : World) : peek (hd.heap_39 w.params) ⟨PySem.Challenge.rw_fe0297_01.row.prog, w.params⟩ (Builtin.«issubclass.nested» ⟨[.ref 135, .type "tuple", rawInt 0], []⟩) = some (.done (.ret (.bool true))) := by kernel_rfl
theorem issub_ct (F : Fr h₀ L s.heap m) (X₀ : (hd.heap_39 w.params).In h₀) (h : Q (.bool true) s) : wpAny (model PySem.Challenge.rw_fe0297_01.row.prog w) A (call (.builtin "issubclass") [.ref 135, .type "tuple"]) Q E s := by
  have X := X₀.keeps F.keep
  refine wpAny_call (codeAny_call_builtin PySem.F.plain_issubclass PySem.F.entry_issubclass ?_)
  refine wpAny_mono (Q := fun _ s' => s' = s) (E := fun _ _ => False) ?_ ?_ (fun _ _ z => z.elim)
  · obtain ⟨hh, g, d, t, os⟩ := s
    exact (Looks.of_peek (M := model PySem.Challenge.rw_fe0297_01.row.prog w) (r := ()) X (by kernel_rfl)).at rfl
  · rintro _ _ rfl
    refine issubclass_outer ?_
    exact (Looks.of_peek (M := model PySem.Challenge.rw_fe0297_01.row.prog w) X (isn_peek w)).here h
theorem getitem_ct (F : Fr h₀ L s.heap m) (X₀ : (hd.heap_39 w.params).In h₀) (N : News h₀ L s.heap news) (hm : (x, ctObj dx v1 v2 v3) ∈ news) {i : Int} {u : Tok} {v : Value} (hi : (i = 1 ∧ v = v2) ∨ (i = 2 ∧ v = v3)) (h : Q v s) :
    wpAny (model PySem.Challenge.rw_fe0297_01.row.prog w) A (call (.builtin "tuple.__getitem__") [.ref x, .int i u]) Q E s := by
  have X := X₀.keeps F.keep
  obtain ⟨hh, g, d, tk, os⟩ := s
  have hx : hh.get? x = some (ctObj dx v1 v2 v3) := (N _ hm).1
  have M1 : Looks (model PySem.Challenge.rw_fe0297_01.row.prog w) hh (typeOf (.ref x)) (.ref 135) := (Looks.ld hx).andThen .now
  have M2 : Looks (model PySem.Challenge.rw_fe0297_01.row.prog w) hh (isInstance (.ref x) (.type "tuple")) true := M1.andThen (Looks.of_peek X (by kernel_rfl))
  have M3 : Looks (model PySem.Challenge.rw_fe0297_01.row.prog w) hh (specialOf (.int i u) "__index__") (some (.builtin "int.__index__")) := Looks.of_pure (by kernel_rfl)
  refine wpAny_call (codeAny_call_builtin PyProof.Rows.slot_tuple_getitem.plain PyProof.Rows.entry_tuple_getitem (@check_slot (model PySem.Challenge.rw_fe0297_01.row.prog w) _ _ _ "tuple.__getitem__" "tuple" "__getitem__" (.ref x) [.int i u] [] _ (by decide +kernel) (by decide +kernel) M2 (by unfold argsOk; kernel_rfl) ?_))
  unfold Builtin.«tuple.__getitem__»
  rcases hi with ⟨rfl, rfl⟩ | ⟨rfl, rfl⟩
  all_goals
    repeat lk
    exact h
end
local macro_rules | `(tactic| walk_at "call type:type") => `(tactic| (k_here; k_dflt (refine' type_ct ?N ?m ?_; (case N => k_asm); (case m => k_mem); k_whole)))
local macro_rules | `(tactic| walk_at "call builtin:issubclass") => `(tactic| (k_here; k_dflt (refine' issub_ct ?F ?X ?_; (case F => k_asm); (case X => k_asm); k_whole)))
local macro_rules | `(tactic| walk_at "call builtin:tuple.__getitem__") => `(tactic| (k_here; k_dflt (first
  | (refine' getitem_ct ?F ?X ?N ?m (.inl ⟨rfl, rfl⟩) ?_; (case F => k_asm); (case X => k_asm); (case N => k_asm); (case m => k_mem); k_whole)
  | (refine' getitem_ct ?F ?X ?N ?m (.inr ⟨rfl, rfl⟩) ?_; (case F => k_asm); (case X => k_asm); (case N => k_asm); (case m => k_mem); k_whole))))
theorem get43 (w : World) {x dx : Addr} {v1 v2 v3 : Value} : Raw PySem.Challenge.rw_fe0297_01.row.prog w (hd.heap_39 w.params) 43 [(x, ctObj dx v1 v2 v3), (dx, emptyDict)] [.ref 127, .ref x, .ref 135] 5 40 (Keep [(x, ctObj dx v1 v2 v3), (dx, emptyDict)] fun tl r => r = v2 ∧ tl = []) := by
  refine raw_of [(Str.ofString "self", .ref 127), (Str.ofString "obj", .ref x), (Str.ofString "objtype", .ref 135)] (by k_is) (by k_is) (fun s X => binds_K X rfl (by k_is) rfl rfl rfl) (locs rfl) (by decide) rfl rfl rfl ?_
  intro dp un gd outer g L mg mb p loose s F X N T hd hu
  replace F : Fr g L s.heap (fun y => List.lookup y [(Str.ofString "objtype", .ref 135), (Str.ofString "obj", .ref x), (Str.ofString "self", .ref 127)]) := F
  show wpAny _ _ _ _ _ _
  k_fold
  k_steps
  exact RetP.intro [] (by assumption) (by assumption) (by walk_at "news in") ⟨rfl, rfl⟩
theorem get43' (w : World) {x dx : Addr} {v1 v2 v3 : Value} : Raw PySem.Challenge.rw_fe0297_01.row.prog w (hd.heap_39 w.params) 43 [(x, ctObj dx v1 v2 v3), (dx, emptyDict)] [.ref 130, .ref x, .ref 135] 5 40 (Keep [(x, ctObj dx v1 v2 v3), (dx, emptyDict)] fun tl r => r = v3 ∧ tl = []) := by
  refine raw_of [(Str.ofString "self", .ref 130), (Str.ofString "obj", .ref x), (Str.ofString "objtype", .ref 135)] (by k_is) (by k_is) (fun s X => binds_K X rfl (by k_is) rfl rfl rfl) (locs rfl) (by decide) rfl rfl rfl ?_
  intro dp un gd outer g L mg mb p loose s F X N T hd hu
  replace F : Fr g L s.heap (fun y => List.lookup y [(Str.ofString "objtype", .ref 135), (Str.ofString "obj", .ref x), (Str.ofString "self", .ref 130)]) := F
  show wpAny _ _ _ _ _ _
  k_fold
  k_steps
  exact RetP.intro [] (by assumption) (by assumption) (by walk_at "news in") ⟨rfl, rfl⟩
section
variable {w : World} {x dx : Addr} {v1 v2 v3 : Value} {news : List (Addr × Obj)} {A : Around} {h₀ : Heap} {L : Addr} {m mg mb : Str → Option Value} {p : Program} {loose : List Str} {s : Shared} {Q E : Value → Shared → Prop} {expr : Bool}
theorem load_use {u : Value} (hh : A.handled = none) (F : Fr h₀ L s.heap m) (X₀ : (hd.heap_39 w.params).In h₀) (N : News h₀ L s.heap news) (T : TopRead p loose mg mb h₀) (hD : A.depth + 12 < recursionLimit) (hU : A.units + 40 < cLine)
    (h : ∀ x dx t h' tk, Fr h₀ L h' m → News h₀ L h' ((x, ctObj dx (.str (Str.ofString "narrow") t) (.ref 154) (.ref 155)) :: (dx, emptyDict) :: news) → Q (.ref x) { s with heap := h', toks := tk }) :
    wpAny (model PySem.Challenge.rw_fe0297_01.row.prog w) A (call (.ref 163) [u]) Q E s := by
  refine Gives.use (load_gives w) hh F X₀ N T (fun _ h => nomatch h) hD hU ?_
  rintro r tl h' tk' F' N' ⟨x, dx, t, rfl, rfl⟩
  exact h x dx t h' tk' F' N'
theorem inst_ct {h : Heap} (N : News h₀ L h news) (hm : (x, ctObj dx v1 v2 v3) ∈ news) (hd : (dx, emptyDict) ∈ news) : InstAt h x (ctObj dx v1 v2 v3) 135 (some emptyDict) := ⟨(N _ hm).1, rfl, rfl, (N _ hd).1⟩
theorem tga_plain : plainId "tuple.__getattribute__" = true := by decide +kernel
theorem tga_kind : builtinKind "tuple.__getattribute__" = some .slot := by decide +kernel
theorem tga_split : splitId "tuple.__getattribute__" = some ("tuple", "__getattribute__") := by decide +kernel
theorem tga_args (a b : Value) : argsOk "tuple.__getattribute__" ⟨[a, b], []⟩ := by unfold argsOk; kernel_rfl
theorem tga_bind (x : Addr) : bindSpecial (.builtin "tuple.__getattribute__") (.ref x) = pure (.builtin "tuple.__getattribute__", [.ref x]) := by kernel_rfl

theorem attr_ct {A : Around} {name : Str} {g b : Value} (X : (hd.heap_39 w.params).In s.heap) (I : InstAt s.heap x (ctObj dx v1 v2 v3) 135 (some emptyDict))
    (hf : findObj (hd.heap_39 w.params) 135 (some emptyDict) name = some (.bind g b))
    (h : wpAny (model PySem.Challenge.rw_fe0297_01.row.prog w) A.in1 (call g [b, .ref x, .ref 135]) (fun v s' => wpAny (model PySem.Challenge.rw_fe0297_01.row.prog w) A (handedOut v) Q E s') (fun _ _ => False) { s with toks := s.toks + 1 }) :
    wpAny (model PySem.Challenge.rw_fe0297_01.row.prog w) A (getAttr (.ref x) name expr) Q E s := by
  obtain ⟨hh, gg, d, t, os⟩ := s
  have L0 := I.type (M := model PySem.Challenge.rw_fe0297_01.row.prog w)
  have L1 : Looks (model PySem.Challenge.rw_fe0297_01.row.prog w) hh (typeLookup (.ref 135) "__getattribute__") (some (.builtin "tuple.__getattribute__")) := Looks.of_peek X (by kernel_rfl)
  have L2 : Looks (model PySem.Challenge.rw_fe0297_01.row.prog w) hh (hookBefore (.ref 135)) none := Looks.of_peek X (by kernel_rfl)
  have L3 := looks_find (M := model PySem.Challenge.rw_fe0297_01.row.prog w) X I hf
  have L4 : Looks (model PySem.Challenge.rw_fe0297_01.row.prog w) hh (isInstance (.ref x) (.type "tuple")) true := L0.andThen (Looks.of_peek X (by kernel_rfl))
  unfold getAttr getAttrBy
  refine wpAny_bind (wpAny_mkText (wpAny_holding (wpAny_bind (L0.at (wpAny_bind (L1.at ?_))))))
  show wpAny _ _ (getAttrByItsOwn _ _ _ _ _ _) _ _ _
  unfold getAttrByItsOwn
  refine wpAny_bind (L2.at (wpAny_bind (wpAny_attempt (wpAny_holding ?_))))
  unfold callGetattribute
  rw [show (expr && onTheHeap (Value.builtin "tuple.__getattribute__")) = false from Bool.and_false _, if_neg (by decide)]
  unfold boundAndCalled
  rw [tga_bind]
  refine wpAny_bind (wpAny_pure ?_)
  show wpAny _ _ (call (.builtin "tuple.__getattribute__") [.ref x, .str name t]) _ _ _
  refine wpAny_call (codeAny_call_builtin tga_plain PySem.F.entry_tuple_ga (@check_slot (model PySem.Challenge.rw_fe0297_01.row.prog w) _ _ _ "tuple.__getattribute__" "tuple" "__getattribute__" (.ref x) [.str name t] [] _ tga_kind tga_split L4 (tga_args _ _) ?_))
  unfold Builtin.«object.__getattribute__» Builtin.ObjectAttr.bindTo
  generalize hC : @call = C
  repeat lk
  subst hC
  refine wpAny_mono h (fun v s' z => wpAny_pure z) (fun _ _ z => z.elim)
theorem widths_ct (hh : A.handled = none) (F : Fr h₀ L s.heap m) (X₀ : (hd.heap_39 w.params).In h₀) (N : News h₀ L s.heap news) (hm : (x, ctObj dx v1 v2 v3) ∈ news) (hdx : (dx, emptyDict) ∈ news) (T : TopRead p loose mg mb h₀) (hD : A.depth + 5 < recursionLimit) (hU : A.units + 41 < cLine)
    (h9 : handedIn v2 = true) (h : ∀ h' tk, Fr h₀ L h' m → News h₀ L h' news → Q v2 { s with heap := h', toks := tk }) :
    wpAny (model PySem.Challenge.rw_fe0297_01.row.prog w) A (getAttr (.ref x) (Str.ofString "widths") expr) Q E s := by
  refine attr_ct (X₀.keeps F.keep) (inst_ct N hm hdx) (g := .ref 43) (b := .ref 127) (by kernel_rfl) ?_
  refine Gives.use (get43 w (x := x) (dx := dx) (v1 := v1) (v2 := v2) (v3 := v3)) hh F X₀ N T (List.forall_mem_cons.mpr ⟨hm, List.forall_mem_cons.mpr ⟨hdx, fun _ h => nomatch h⟩⟩) hD (show A.units + 1 + 40 < cLine by omega) ?_
  rintro r tl h' tk' F' N' ⟨rfl, rfl⟩
  exact handed_on h9 (h h' tk' F' N')
theorem narrow_ct (hh : A.handled = none) (F : Fr h₀ L s.heap m) (X₀ : (hd.heap_39 w.params).In h₀) (N : News h₀ L s.heap news) (hm : (x, ctObj dx v1 v2 v3) ∈ news) (hdx : (dx, emptyDict) ∈ news) (T : TopRead p loose mg mb h₀) (hD : A.depth + 5 < recursionLimit) (hU : A.units + 41 < cLine)
    (h9 : handedIn v3 = true) (h : ∀ h' tk, Fr h₀ L h' m → News h₀ L h' news → Q v3 { s with heap := h', toks := tk }) :
    wpAny (model PySem.Challenge.rw_fe0297_01.row.prog w) A (getAttr (.ref x) (Str.ofString "narrow_to_wide") expr) Q E s := by
  refine attr_ct (X₀.keeps F.keep) (inst_ct N hm hdx) (g := .ref 43) (b := .ref 130) (by kernel_rfl) ?_
  refine Gives.use (get43' w (x := x) (dx := dx) (v1 := v1) (v2 := v2) (v3 := v3)) hh F X₀ N T (List.forall_mem_cons.mpr ⟨hm, List.forall_mem_cons.mpr ⟨hdx, fun _ h => nomatch h⟩⟩) hD (show A.units + 1 + 40 < cLine by omega) ?_
  rintro r tl h' tk' F' N' ⟨rfl, rfl⟩
  exact handed_on h9 (h h' tk' F' N')
end
end Mine
namespace Mine
open PySem PySem.Spec PySem.Calls PyProof.Rows PySem.W
local macro_rules | `(tactic| walk_at "news in") => `(tactic| first | (with_reducible exact sub_self) | (with_reducible exact sub_nil) | ((with_reducible refine sub_cons ?a1 ?a2); (case a1 => k_mem); (case a2 => walk_at "news in")) | ((with_reducible refine sub_app ?a1 ?a2); (case a1 => walk_at "news in"); (case a2 => walk_at "news in")) | ((with_reducible refine sub_skip ?_); walk_at "news in") | ((with_reducible refine sub_appL ?_); walk_at "news in") | ((with_reducible refine sub_appR ?_); walk_at "news in"))
local macro_rules | `(tactic| k_room) => `(tactic| ktr_room)
local macro_rules | `(tactic| walk_at "my room") => `(tactic| ((try dsimp only); first | ktr_room | omega))
local macro_rules | `(tactic| walk_at "my units") => `(tactic| ((try dsimp only); first | ktr_units | omega))
local macro_rules | `(tactic| walk_at "my given") => `(tactic| ((case hh => first | exact rfl | assumption); (case F => k_asm); (case X => k_asm); (case N => k_asm); (case T => k_asm); (case hs => walk_at "news in"); (case hd => walk_at "my room"); (case hu => walk_at "my units")))
local macro_rules | `(tactic| walk_at "getMethod type:tuple") => `(tactic| (k_here; refine' method_type ?F ?X ?m (by decide +kernel) ?e ?h ?_; (case F => k_asm); (case X => k_asm); (case m => exact meta_tuple'); (case e => k_dflt k_is); (case h => k_handed)))
local macro_rules | `(tactic| walk_at "call ref") => `(tactic| (k_here; (with_reducible show wpAny _ _ (call (Value.ref 163) _) _ _ _); k_dflt (refine' load_use ?hh ?F ?X ?N ?T ?hd ?hu ?_; (case hh => first | exact rfl | assumption); (case F => k_asm); (case X => k_asm); (case N => k_asm); (case T => k_asm); (case hd => walk_at "my room"); (case hu => walk_at "my units"); k_whole; intro x' dx' t' h' tk' F' N'; (try k_sweep))))
local macro_rules | `(tactic| walk_at "getAttr ref") => `(tactic| (k_here; k_dflt (first
  | (refine' widths_ct ?hh ?F ?X ?N ?m1 ?m2 ?T ?hd ?hu ?h9 ?_; (case hh => first | exact rfl | assumption); (case F => k_asm); (case X => k_asm); (case N => k_asm); (case m1 => k_mem); (case m2 => k_mem); (case T => k_asm); (case hd => walk_at "my room"); (case hu => walk_at "my units"); (case h9 => exact rfl); k_whole; intro h' tk' F' N'; (try k_sweep))
  | (refine' narrow_ct ?hh ?F ?X ?N ?m1 ?m2 ?T ?hd ?hu ?h9 ?_; (case hh => first | exact rfl | assumption); (case F => k_asm); (case X => k_asm); (case N => k_asm); (case m1 => k_mem); (case m2 => k_mem); (case T => k_asm); (case hd => walk_at "my room"); (case hu => walk_at "my units"); (case h9 => exact rfl); k_whole; intro h' tk' F' N'; (try k_sweep)))))
theorem fill3 : ∀ (w : World) (h : Heap), (hd.heap_39 w.params).In h → PySem.Challenge.rw_fe0297_01.row.prog = PySem.Challenge.rw_fe0297_01.row.prog → True := by
  k_fill
  intros
  trivial
theorem size_a (w : World) {t t' : Tok} : Raw PySem.Challenge.rw_fe0297_01.row.prog w (hd.heap_39 w.params) 185 [] [.str ⟨#[97]⟩ t, .str (Str.ofString "auto") t'] 15 60 (Keep [] fun tl r => tl = [] ∧ ∃ u, r = .int 1 u) := by
  refine raw_of [(Str.ofString "character", .str ⟨#[97]⟩ t), (Str.ofString "unicode_version", .str (Str.ofString "auto") t')] (by k_is) (by k_is) (fun s X => binds_K X rfl (by k_is) rfl rfl rfl) (locs rfl) (by decide) rfl rfl rfl ?_
  intro dp un gd outer g L mg mb p loose s F X N T hd hu
  replace F : Fr g L s.heap (fun y => List.lookup y [(Str.ofString "unicode_version", .str (Str.ofString "auto") t'), (Str.ofString "character", .str ⟨#[97]⟩ t)]) := F
  show wpAny _ _ _ _ _ _
  k_fold
  k_steps
  exact RetP.intro [] (by assumption) (by assumption) (by walk_at "news in") ⟨rfl, _, rfl⟩
theorem size_hira (w : World) {t t' : Tok} : Raw PySem.Challenge.rw_fe0297_01.row.prog w (hd.heap_39 w.params) 185 [] [.str ⟨#[12354]⟩ t, .str (Str.ofString "auto") t'] 15 60 (Keep [] fun tl r => tl = [] ∧ ∃ u, r = .int 2 u) := by
  refine raw_of [(Str.ofString "character", .str ⟨#[12354]⟩ t), (Str.ofString "unicode_version", .str (Str.ofString "auto") t')] (by k_is) (by k_is) (fun s X => binds_K X rfl (by k_is) rfl rfl rfl) (locs rfl) (by decide) rfl rfl rfl ?_
  intro dp un gd outer g L mg mb p loose s F X N T hd hu
  replace F : Fr g L s.heap (fun y => List.lookup y [(Str.ofString "unicode_version", .str (Str.ofString "auto") t'), (Str.ofString "character", .str ⟨#[12354]⟩ t)]) := F
  show wpAny _ _ _ _ _ _
  k_fold
  k_steps
  exact RetP.intro [] (by assumption) (by assumption) (by walk_at "news in") ⟨rfl, _, rfl⟩
theorem size_acute (w : World) {t t' : Tok} : Raw PySem.Challenge.rw_fe0297_01.row.prog w (hd.heap_39 w.params) 185 [] [.str ⟨#[769]⟩ t, .str (Str.ofString "auto") t'] 15 60 (Keep [] fun tl r => tl = [] ∧ ∃ u, r = .int 0 u) := by
  refine raw_of [(Str.ofString "character", .str ⟨#[769]⟩ t), (Str.ofString "unicode_version", .str (Str.ofString "auto") t')] (by k_is) (by k_is) (fun s X => binds_K X rfl (by k_is) rfl rfl rfl) (locs rfl) (by decide) rfl rfl rfl ?_
  intro dp un gd outer g L mg mb p loose s F X N T hd hu
  replace F : Fr g L s.heap (fun y => List.lookup y [(Str.ofString "unicode_version", .str (Str.ofString "auto") t'), (Str.ofString "character", .str ⟨#[769]⟩ t)]) := F
  show wpAny _ _ _ _ _ _
  k_fold
  k_steps
  exact RetP.intro [] (by assumption) (by assumption) (by walk_at "news in") ⟨rfl, _, rfl⟩
theorem size_hash (w : World) {t t' : Tok} : Raw PySem.Challenge.rw_fe0297_01.row.prog w (hd.heap_39 w.params) 185 [] [.str ⟨#[35]⟩ t, .str (Str.ofString "auto") t'] 15 60 (Keep [] fun tl r => tl = [] ∧ ∃ u, r = .int 1 u) := by
  refine raw_of [(Str.ofString "character", .str ⟨#[35]⟩ t), (Str.ofString "unicode_version", .str (Str.ofString "auto") t')] (by k_is) (by k_is) (fun s X => binds_K X rfl (by k_is) rfl rfl rfl) (locs rfl) (by decide) rfl rfl rfl ?_
  intro dp un gd outer g L mg mb p loose s F X N T hd hu
  replace F : Fr g L s.heap (fun y => List.lookup y [(Str.ofString "unicode_version", .str (Str.ofString "auto") t'), (Str.ofString "character", .str ⟨#[35]⟩ t)]) := F
  show wpAny _ _ _ _ _ _
  k_fold
  k_steps
  exact RetP.intro [] (by assumption) (by assumption) (by walk_at "news in") ⟨rfl, _, rfl⟩
theorem size_heart (w : World) {t t' : Tok} : Raw PySem.Challenge.rw_fe0297_01.row.prog w (hd.heap_39 w.params) 185 [] [.str ⟨#[10084]⟩ t, .str (Str.ofString "auto") t'] 15 60 (Keep [] fun tl r => tl = [] ∧ ∃ u, r = .int 1 u) := by
  refine raw_of [(Str.ofString "character", .str ⟨#[10084]⟩ t), (Str.ofString "unicode_version", .str (Str.ofString "auto") t')] (by k_is) (by k_is) (fun s X => binds_K X rfl (by k_is) rfl rfl rfl) (locs rfl) (by decide) rfl rfl rfl ?_
  intro dp un gd outer g L mg mb p loose s F X N T hd hu
  replace F : Fr g L s.heap (fun y => List.lookup y [(Str.ofString "unicode_version", .str (Str.ofString "auto") t'), (Str.ofString "character", .str ⟨#[10084]⟩ t)]) := F
  show wpAny _ _ _ _ _ _
  k_fold
  k_steps
  exact RetP.intro [] (by assumption) (by assumption) (by walk_at "news in") ⟨rfl, _, rfl⟩
theorem size_grin (w : World) {t t' : Tok} : Raw PySem.Challenge.rw_fe0297_01.row.prog w (hd.heap_39 w.params) 185 [] [.str ⟨#[128512]⟩ t, .str (Str.ofString "auto") t'] 15 60 (Keep [] fun tl r => tl = [] ∧ ∃ u, r = .int 2 u) := by
  refine raw_of [(Str.ofString "character", .str ⟨#[128512]⟩ t), (Str.ofString "unicode_version", .str (Str.ofString "auto") t')] (by k_is) (by k_is) (fun s X => binds_K X rfl (by k_is) rfl rfl rfl) (locs rfl) (by decide) rfl rfl rfl ?_
  intro dp un gd outer g L mg mb p loose s F X N T hd hu
  replace F : Fr g L s.heap (fun y => List.lookup y [(Str.ofString "unicode_version", .str (Str.ofString "auto") t'), (Str.ofString "character", .str ⟨#[128512]⟩ t)]) := F
  show wpAny _ _ _ _ _ _
  k_fold
  k_steps
  exact RetP.intro [] (by assumption) (by assumption) (by walk_at "news in") ⟨rfl, _, rfl⟩
theorem size_blank (w : World) {t t' : Tok} : Raw PySem.Challenge.rw_fe0297_01.row.prog w (hd.heap_39 w.params) 185 [] [.str ⟨#[32]⟩ t, .str (Str.ofString "auto") t'] 15 60 (Keep [] fun tl r => tl = [] ∧ ∃ u, r = .int 1 u) := by
  refine raw_of [(Str.ofString "character", .str ⟨#[32]⟩ t), (Str.ofString "unicode_version", .str (Str.ofString "auto") t')] (by k_is) (by k_is) (fun s X => binds_K X rfl (by k_is) rfl rfl rfl) (locs rfl) (by decide) rfl rfl rfl ?_
  intro dp un gd outer g L mg mb p loose s F X N T hd hu
  replace F : Fr g L s.heap (fun y => List.lookup y [(Str.ofString "unicode_version", .str (Str.ofString "auto") t'), (Str.ofString "character", .str ⟨#[32]⟩ t)]) := F
  show wpAny _ _ _ _ _ _
  k_fold
  k_steps
  exact RetP.intro [] (by assumption) (by assumption) (by walk_at "news in") ⟨rfl, _, rfl⟩

/-- the signs that are measured: all but the selector and the joiner -/
def Plain (c : Nat) : Prop := c = 97 ∨ c = 12354 ∨ c = 769 ∨ c = 35 ∨ c = 10084 ∨ c = 128512 ∨ c = 32
theorem size_gives (w : World) {c : Nat} (hc : Plain c) {t t' : Tok} : Raw PySem.Challenge.rw_fe0297_01.row.prog w (hd.heap_39 w.params) 185 [] [.str ⟨#[c]⟩ t, .str (Str.ofString "auto") t'] 15 60 (Keep [] fun tl r => tl = [] ∧ ∃ u, r = .int (wid c) u) := by
  rcases hc with rfl | rfl | rfl | rfl | rfl | rfl | rfl
  · exact size_a w
  · exact size_hira w
  · exact size_acute w
  · exact size_hash w
  · exact size_heart w
  · exact size_grin w
  · exact size_blank w
end Mine
namespace Mine
open PySem PySem.Spec PySem.Calls PyProof.Rows PySem.W
def Halt (P : Prop) : Prop := P
theorem halt {P : Prop} (h : Halt P) : P := h
theorem Halt.out {P : Prop} (h : P) : Halt P := h
local macro_rules | `(tactic| walk_at "news in") => `(tactic| first | (with_reducible exact sub_self) | (with_reducible exact sub_nil) | ((with_reducible refine sub_cons ?a1 ?a2); (case a1 => k_mem); (case a2 => walk_at "news in")) | ((with_reducible refine sub_app ?a1 ?a2); (case a1 => walk_at "news in"); (case a2 => walk_at "news in")) | ((with_reducible refine sub_skip ?_); walk_at "news in") | ((with_reducible refine sub_appL ?_); walk_at "news in") | ((with_reducible refine sub_appR ?_); walk_at "news in"))
local macro_rules | `(tactic| k_room) => `(tactic| ktr_room)
local macro_rules | `(tactic| walk_at "my room") => `(tactic| ((try dsimp only); first | ktr_room | omega))
local macro_rules | `(tactic| walk_at "my units") => `(tactic| ((try dsimp only); first | ktr_units | omega))
local macro_rules | `(tactic| walk_at "my given") => `(tactic| ((case hh => first | exact rfl | assumption); (case F => k_asm); (case X => k_asm); (case N => k_asm); (case T => k_asm); (case hs => walk_at "news in"); (case hd => walk_at "my room"); (case hu => walk_at "my units")))
local macro_rules | `(tactic| walk_at "getMethod type:tuple") => `(tactic| (k_here; refine' method_type ?F ?X ?m (by decide +kernel) ?e ?h ?_; (case F => k_asm); (case X => k_asm); (case m => exact meta_tuple'); (case e => k_dflt k_is); (case h => k_handed)))
local macro_rules | `(tactic| walk_at "knows") => `(tactic| first | exact knows_nil | (refine knows_cons ?a1 ?a2; (case a1 => first | with_reducible assumption | rfl | with_unfolding_all rfl); (case a2 => walk_at "knows")))
local macro_rules | `(tactic| walk_at "ForPost") => `(tactic| dsimp only [ForPost])
local macro_rules | `(tactic| walk_at "WhilePost") => `(tactic| dsimp only [WhilePost])
local macro_rules | `(tactic| walk_at "exec For Name Name cons nil") => `(tactic| refine halt ?_)
local macro_rules | `(tactic| walk_at "exec For Name Call cons nil") => `(tactic| refine halt ?_)
local macro_rules | `(tactic| walk_at "exec For Tuple Name cons nil") => `(tactic| refine halt ?_)
local macro_rules | `(tactic| walk_at "exec For Tuple Name cons cons") => `(tactic| refine halt ?_)
local macro_rules | `(tactic| walk_at "exec While Compare cons nil") => `(tactic| refine halt ?_)
local macro_rules | `(tactic| walk_at "exec While Constant cons nil") => `(tactic| refine halt ?_)
theorem fill4 : ∀ (w : World) (h : Heap), (hd.heap_39 w.params).In h → PySem.Challenge.rw_fe0297_01.row.prog = PySem.Challenge.rw_fe0297_01.row.prog → True := by
  k_fill
  intros
  trivial
/-- the signs of this law -/
def Sign (c : Nat) : Prop := c = 97 ∨ c = 12354 ∨ c = 769 ∨ c = 35 ∨ c = 65039 ∨ c = 8205 ∨ c = 10084 ∨ c = 128512 ∨ c = 32
theorem all_take {l : List Nat} {i c : Nat} (hP : ∀ c ∈ l.take i, one c = true) (hcl : l[i]? = some c) (h1 : one c = true) : ∀ c ∈ l.take (i + 1), one c = true := by
  intro d hd
  rw [List.take_add_one, hcl] at hd
  rcases List.mem_append.mp hd with h | h
  · exact hP d h
  · rw [List.mem_singleton.mp h]; exact h1
theorem single_gives (w : World) {l : List Nat} (hl : ∀ c ∈ l, Sign c) {t : Tok} : Raw PySem.Challenge.rw_fe0297_01.row.prog w (hd.heap_39 w.params) 177 [] [.str ⟨l.toArray⟩ t] 14 60 (Keep [] fun tl r => tl = [] ∧ r = .bool (l.all one)) := by
  refine raw_of [(Str.ofString "text", .str ⟨l.toArray⟩ t)] (by k_is) (by k_is) (fun s X => BindsTo.of_eq rfl) (locs rfl) (by decide) rfl rfl rfl ?_
  intro dp un gd outer g L mg mb p loose s F X N T hd hu
  replace F : Fr g L s.heap (fun y => List.lookup y [(Str.ofString "text", .str ⟨l.toArray⟩ t)]) := F
  show wpAny _ _ _ _ _ _
  k_fold
  k_steps
  refine Halt.out ?_
  refine For_led ?_
  k_steps
  refine iter_str (fun i m rest gs => rest = [] ∧ gs = s.gens ∧ ∀ c ∈ l.take i, one c = true) rfl F N ⟨rfl, rfl, by simp⟩ ?_ ?_ ?_
  · intros; rfl
  · rintro i c t1 I m rest gs o h tk hc ⟨rfl, rfl, hP⟩ hr F1 N1
    have hcl : l[i]? = some c := by simpa using hc
    have hn : Sign c := hl _ (List.mem_of_getElem? hcl)
    replace F1 : Fr g L h m := F1
    clear F N
    show wpAny _ _ _ _ _ _
    k_fold
    k_steps
    refine Halt.out ?_
    rename Fr _ _ _ _ => F2
    rename News _ _ _ _ => N2
    refine For_led ?_
    k_steps
    refine iter_list (l := 170) (items := #[.ref 164, .ref 165, .ref 166, .ref 167, .ref 168, .ref 169]) (k := 0)
      (fun j m2 rest2 gs2 => rest2 = [(I, o)] ∧ gs2 = s.gens ∧ (∃ u, m2 (Str.ofString "codepoint") = some (.int c u)) ∧ ∀ p ∈ ([(32, 126), (160, 172), (174, 767), (880, 1154), (9472, 9724), (10240, 10495)] : List (Int × Int)).take j, ¬ (p.1 ≤ (c : Int) ∧ (c : Int) ≤ p.2))
      rfl F2 N2 ⟨rfl, rfl, ⟨_, rfl⟩, by simp⟩ (fun _ _ _ _ h _ F3 _ => F3.keep _ _ (X 170 _ rfl)) (.inr ⟨⟨_, _, _, rfl⟩, ?_⟩) ?_ ?_
    · intro j v hv
      rcases j with _|_|_|_|_|_|j <;> simp at hv <;> exact ⟨_, hv.symm⟩
    · rintro j v I2 m2 rest2 gs2 o2 h2 tk2 hv ⟨rfl, rfl, ⟨u2, hm2⟩, hj⟩ hr2 F3 N3
      replace F3 := fr_know [(Str.ofString "codepoint", Value.int c u2)] F3 (by walk_at "knows")
      replace F3 : Fr g L h2 (know [(Str.ofString "codepoint", Value.int c u2)] m2) := F3
      clear F2 N2 hm2
      rcases j with _|_|_|_|_|_|j <;> simp only [List.getElem?_toArray, List.getElem?_cons_zero, List.getElem?_cons_succ, List.getElem?_nil, Option.some.injEq, reduceCtorEq] at hv
      all_goals
        subst hv
        show wpAny _ _ _ _ _ _
        k_fold
        k_steps
        · refine ForNext.intro [] (by assumption) (by assumption) (by walk_at "news in") hr ⟨rfl, rfl, all_take hP hcl ?_⟩
          have key : c = 97 ∨ c = 35 ∨ c = 32 := by unfold Sign at hn; omega
          rcases key with rfl | rfl | rfl <;> rfl
        · refine ForNext.intro _ (by assumption) (by assumption) (by walk_at "news in") (by assumption) ⟨rfl, rfl, ⟨_, rfl⟩, ?_⟩
          simp only [List.take_succ_cons, List.take_zero, List.mem_cons, List.not_mem_nil, or_false, forall_eq_or_imp, forall_eq, false_implies, implies_true] at hj ⊢
          omega
        · refine ForNext.intro _ (by assumption) (by assumption) (by walk_at "news in") (by assumption) ⟨rfl, rfl, ⟨_, rfl⟩, ?_⟩
          simp only [List.take_succ_cons, List.take_zero, List.mem_cons, List.not_mem_nil, or_false, forall_eq_or_imp, forall_eq, false_implies, implies_true] at hj ⊢
          omega
    · rintro m2 rest2 gs2 h2 tk2 ⟨rfl, rfl, ⟨u2, hm2⟩, hj⟩ F3 N3
      clear F2 N2 hm2
      show wpAny _ _ _ _ _ _
      k_fold
      k_steps
      refine RetP.intro [] (by assumption) (by assumption) (by walk_at "news in") ⟨rfl, ?_⟩
      have key : l.all one = false := by
        rw [List.all_eq_false]
        refine ⟨c, List.mem_of_getElem? hcl, ?_⟩
        have hsz : (#[Value.ref 164, Value.ref 165, Value.ref 166, Value.ref 167, Value.ref 168, Value.ref 169] : Array Value).size = 6 := rfl
        rw [hsz] at hj
        simp only [List.take_succ_cons, List.take_zero, List.mem_cons, List.not_mem_nil, or_false, forall_eq_or_imp, forall_eq, false_implies, implies_true] at hj
        unfold one
        simp only [Bool.or_eq_true, beq_iff_eq]
        omega
      rw [key]
  · rintro m2 rest2 gs2 h2 tk2 ⟨rfl, rfl, hP⟩ F3 N3
    clear F N
    show wpAny _ _ _ _ _ _
    k_fold
    k_steps
    refine RetP.intro [] (by assumption) (by assumption) (by walk_at "news in") ⟨rfl, ?_⟩
    have key : l.all one = true := by
      rw [List.all_eq_true]
      intro d hd
      refine hP d ?_
      have hsz : (⟨l.toArray⟩ : Str).cps.size = l.length := by simp
      rw [hsz, List.take_length]; exact hd
    rw [key]
end Mine
namespace Mine
open PySem PySem.Spec PySem.Calls PyProof.Rows PySem.W
local macro_rules | `(tactic| walk_at "news in") => `(tactic| first | (with_reducible exact sub_self) | (with_reducible exact sub_nil) | ((with_reducible refine sub_cons ?a1 ?a2); (case a1 => k_mem); (case a2 => walk_at "news in")) | ((with_reducible refine sub_app ?a1 ?a2); (case a1 => walk_at "news in"); (case a2 => walk_at "news in")) | ((with_reducible refine sub_skip ?_); walk_at "news in") | ((with_reducible refine sub_appL ?_); walk_at "news in") | ((with_reducible refine sub_appR ?_); walk_at "news in"))
local macro_rules | `(tactic| k_room) => `(tactic| ktr_room)
local macro_rules | `(tactic| walk_at "my room") => `(tactic| ((try dsimp only); first | ktr_room | omega))
local macro_rules | `(tactic| walk_at "my units") => `(tactic| ((try dsimp only); first | ktr_units | omega))
local macro_rules | `(tactic| walk_at "my given") => `(tactic| ((case hh => first | exact rfl | assumption); (case F => k_asm); (case X => k_asm); (case N => k_asm); (case T => k_asm); (case hs => walk_at "news in"); (case hd => walk_at "my room"); (case hu => walk_at "my units")))
local macro_rules | `(tactic| walk_at "getMethod type:tuple") => `(tactic| (k_here; refine' method_type ?F ?X ?m (by decide +kernel) ?e ?h ?_; (case F => k_asm); (case X => k_asm); (case m => exact meta_tuple'); (case e => k_dflt k_is); (case h => k_handed)))
local macro_rules | `(tactic| walk_at "ForPost") => `(tactic| dsimp only [ForPost])
local macro_rules | `(tactic| walk_at "WhilePost") => `(tactic| dsimp only [WhilePost])
local macro_rules | `(tactic| walk_at "knows") => `(tactic| first | exact kn_nil | (refine kn_cons ?a1 ?a2; (case a1 => first | with_reducible assumption | exact rfl | with_unfolding_all exact rfl); (case a2 => walk_at "knows")))
local macro_rules | `(tactic| walk_at "WhileEnd") => `(tactic| dsimp only [WhileEnd])
local macro_rules | `(tactic| walk_at "call ref") => `(tactic| (k_here; (with_reducible show wpAny _ _ (call (Value.ref 163) _) _ _ _); k_dflt (refine' load_use ?hh ?F ?X ?N ?T ?hd ?hu ?_; (case hh => first | exact rfl | assumption); (case F => k_asm); (case X => k_asm); (case N => k_asm); (case T => k_asm); (case hd => walk_at "my room"); (case hu => walk_at "my units"); k_whole; intro x' dx' t' h' tk' F' N'; (try k_sweep))))
local macro_rules | `(tactic| walk_at "getAttr ref") => `(tactic| (k_here; k_dflt (first
  | ((with_reducible show wpAny _ _ (getAttr _ (Str.ofString "widths") _) _ _ _); refine' widths_ct ?hh ?F ?X ?N ?m1 ?m2 ?T ?hd ?hu ?h9 ?_; (case hh => first | exact rfl | assumption); (case F => k_asm); (case X => k_asm); (case N => k_asm); (case m1 => k_mem); (case m2 => k_mem); (case T => k_asm); (case hd => walk_at "my room"); (case hu => walk_at "my units"); (case h9 => exact rfl); k_whole; intro h' tk' F' N'; (try k_sweep))
  | ((with_reducible show wpAny _ _ (getAttr _ (Str.ofString "narrow_to_wide") _) _ _ _); refine' narrow_ct ?hh ?F ?X ?N ?m1 ?m2 ?T ?hd ?hu ?h9 ?_; (case hh => first | exact rfl | assumption); (case F => k_asm); (case X => k_asm); (case N => k_asm); (case m1 => k_mem); (case m2 => k_mem); (case T => k_asm); (case hd => walk_at "my room"); (case hu => walk_at "my units"); (case h9 => exact rfl); k_whole; intro h' tk' F' N'; (try k_sweep)))))
local macro_rules | `(tactic| walk_at "exec For Name Name cons nil") => `(tactic| refine halt ?_)
local macro_rules | `(tactic| walk_at "exec For Name Call cons nil") => `(tactic| refine halt ?_)
local macro_rules | `(tactic| walk_at "exec For Tuple Name cons nil") => `(tactic| refine halt ?_)
local macro_rules | `(tactic| walk_at "exec For Tuple Name cons cons") => `(tactic| refine halt ?_)
local macro_rules | `(tactic| walk_at "exec While Compare cons nil") => `(tactic| refine halt ?_)
local macro_rules | `(tactic| walk_at "exec While Constant cons nil") => `(tactic| refine halt ?_)
local macro_rules | `(tactic| walk_at "call builtin:len") => `(tactic| (k_here; (with_reducible show wpAny _ _ (call (Value.builtin "len") [Value.str ⟨List.toArray _⟩ _]) _ _ _); k_dflt (refine len_sg (by omega) ?_; intro u' tk')))
local macro_rules | `(tactic| walk_at "subscriptTail") => `(tactic| (k_here; (with_reducible show wpAny _ _ (subscriptTail _ _ (Value.str ⟨List.toArray _⟩ _) (Value.int (Nat.cast _) _)) _ _ _); k_dflt (refine item_sg (by omega) (by assumption) ?_; intro u' tk')))
local macro_rules | `(tactic| walk_at "subscriptTail Name Name str int") => `(tactic| (k_here; (with_reducible show wpAny _ _ (subscriptTail _ _ (Value.str ⟨List.toArray _⟩ _) (Value.int (Nat.cast _) _)) _ _ _); k_dflt (refine item_sg (by omega) (by assumption) ?_; intro u' tk')))
local macro_rules | `(tactic| walk_at "subscriptTail") => `(tactic| (k_here; (with_reducible show wpAny _ _ (subscriptTail _ _ (Value.ref _) (Value.int _ _)) _ _ _); k_dflt (refine' item_last ?N ?m ?_ ?s; (case N => k_asm); (case m => k_mem); (case s => with_unfolding_all rfl); k_whole)))
local macro_rules | `(tactic| walk_at "subscriptTail Name UnaryOp ref int") => `(tactic| (k_here; (with_reducible show wpAny _ _ (subscriptTail _ _ (Value.ref _) (Value.int _ _)) _ _ _); k_dflt (refine' item_last ?N ?m ?_ ?s; (case N => k_asm); (case m => k_mem); (case s => with_unfolding_all rfl); k_whole)))
local macro_rules | `(tactic| walk_at "subscriptTail Name Constant ref int") => `(tactic| (k_here; (with_reducible show wpAny _ _ (subscriptTail _ _ (Value.ref _) (Value.int _ _)) _ _ _); k_dflt (refine' item_last ?N ?m ?_ ?s; (case N => k_asm); (case m => k_mem); (case s => with_unfolding_all rfl); k_whole)))
local macro_rules | `(tactic| walk_at "my upd") => `(tactic| first | exact Upd.head (by assumption) | (refine' Upd.tail ?a ?b; (case a => k_ne); (case b => walk_at "my upd")))
local macro_rules | `(tactic| walk_at "setItem ref int") => `(tactic| (k_here; (with_reducible show wpAny _ _ (PySem.setItem (Value.ref _) (Value.int _ _) (Value.ref _)) _ _ _); k_dflt (refine' set_last ?F ?N ?U ?_; (case F => k_asm); (case N => k_asm); (case U => walk_at "my upd"); k_whole); intro h' F' N'; (try k_sweep)))
local macro_rules | `(tactic| walk_at "setItem ref int ref") => `(tactic| (k_here; (with_reducible show wpAny _ _ (PySem.setItem (Value.ref _) (Value.int _ _) (Value.ref _)) _ _ _); k_dflt (refine' set_last ?F ?N ?U ?_; (case F => k_asm); (case N => k_asm); (case U => walk_at "my upd"); k_whole); intro h' F' N'; (try k_sweep)))
local macro_rules | `(tactic| walk_at "call builtin:list.append") => `(tactic| (k_here; (with_reducible show wpAny _ _ (call (Value.builtin _) [Value.ref _, _]) _ _ _); k_dflt (refine' append_l ?F ?N ?U ?_ ?z; (case F => k_asm); (case N => k_asm); (case U => walk_at "my upd"); (case z => first | assumption | (simp; done) | (simp; omega)); k_whole); intro h' F' N'; (try k_sweep)))
local macro_rules | `(tactic| walk_at "truthy ref") => `(tactic| (k_here; (with_reducible show wpAny _ _ (truthy (Value.ref _)) _ _ _); k_dflt (refine' truthy_snoc ?N ?m ?z ?_; (case N => k_asm); (case m => k_mem); (case z => first | assumption | omega); k_whole; intro tk')))
theorem fill5 : ∀ (w : World) (h : Heap), (hd.heap_39 w.params).In h → PySem.Challenge.rw_fe0297_01.row.prog = PySem.Challenge.rw_fe0297_01.row.prog → True := by
  k_fill
  intros
  trivial

def lmV : Option (Nat × Tok) → Value
  | none => .none
  | some (c, u) => .str ⟨#[c]⟩ u
abbrev tup3 (a b c : Int) (t1 t2 t3 : Tok) (n : Nat) : Obj := { cls := .type "tuple", data := .seq [Value.int a t1, Value.int b t2, Value.int c t3].toArray n }
def sdat (p : Span) : Dat := .tuple [.int p.1, .int p.2.1, .int p.2.2]
abbrev SpecialSet (w : World) (o : Obj) : Prop := Obj.SetObjOf (strKind PySem.Challenge.rw_fe0297_01.row.prog w) o (fun k' => (false || decide (k' = Str.ofString "\u200d")) || decide (k' = Str.ofString "\ufe0f")) (0 + 1 + 1)
section
variable {w : World} {A : Around} {E : Value → Shared → Prop} {s : Shared} {h₀ : Heap} {L d : Addr} {m mg mb : Str → Option Value} {p : Program} {loose : List Str} {news : List (Addr × Obj)} {o : Obj} {c : Nat} {b : Bool} {u u' : Tok} {Q : Value → Shared → Prop}
theorem in_special (N : News h₀ L s.heap news) (hm : (d, o) ∈ news) (HS : SpecialSet w o) (hb : (c == 8205 || c == 65039) = b) (h : ∀ tk, Q (.bool b) { s with toks := tk }) : wpAny (model PySem.Challenge.rw_fe0297_01.row.prog w) A (compareOp .In (.str ⟨#[c]⟩ u) (.ref d)) Q E s := by
  obtain ⟨a, r, rfl⟩ := List.append_of_mem hm
  refine in_sl1 (k := ⟨#[c]⟩) N HS (by decide) (strKind_is _ _ _ _) rfl ?_
  have e : ((false || decide ((⟨#[c]⟩ : Str) = Str.ofString "\u200d")) || decide ((⟨#[c]⟩ : Str) = Str.ofString "\ufe0f")) = b := by
    rw [← hb]
    have e1 : Str.ofString "\u200d" = ⟨#[8205]⟩ := by decide
    have e2 : Str.ofString "\ufe0f" = ⟨#[65039]⟩ := by decide
    rw [e1, e2]
    have k : ∀ z : Nat, decide ((⟨#[c]⟩ : Str) = ⟨#[z]⟩) = (c == z) := fun z => by
      rw [Bool.eq_iff_iff]; simp
    rw [k, k, Bool.false_or]
  have z := h (s.toks + 1)
  rw [← e] at z; exact z
theorem size_use (hc : Plain c) (hh : A.handled = none) (F : Fr h₀ L s.heap m) (X : (hd.heap_39 w.params).In h₀) (N : News h₀ L s.heap news) (T : TopRead p loose mg mb h₀) (hD : A.depth + 15 < recursionLimit) (hU : A.units + 60 < cLine)
    (h : ∀ t h' tk, Fr h₀ L h' m → News h₀ L h' news → Q (.int (wid c : Nat) t) { s with heap := h', toks := tk }) :
    wpAny (model PySem.Challenge.rw_fe0297_01.row.prog w) A (call (.ref 185) [.str ⟨#[c]⟩ u, .str (Str.ofString "auto") u']) Q E s := by
  refine Gives.use (size_gives w hc) hh F X N T (fun _ h => nomatch h) hD hU ?_
  rintro r tl h' tk' F' N' ⟨rfl, t, rfl⟩
  exact h t h' tk' F' N'
theorem truthy_sign {c : Nat} {Q : Bool → Shared → Prop} (h : ∀ tk, Q true { s with toks := tk }) : wpAny (model PySem.Challenge.rw_fe0297_01.row.prog w) A (truthy (.str ⟨#[c]⟩ u)) Q E s := by
  refine P.truthy_str ?_ ?_
  · show ¬ ((1 : Nat) : Int) ≥ 2 ^ 63
    omega
  · exact h _
theorem in_narrow {c : Nat} (F : Fr h₀ L s.heap m) (X₀ : (hd.heap_39 w.params).In h₀) (hx : Plain c) (hb : n2w c = b) (h : Q (.bool b) s) : wpAny (model PySem.Challenge.rw_fe0297_01.row.prog w) A (compareOp .In (.str ⟨#[c]⟩ u) (.ref 155)) Q E s := by
  have X := X₀.keeps F.keep
  refine in_tuple_strs ⟨_, X 155 _ rfl, rfl, _, rfl⟩ (by repeat constructor) ?_
  subst hb
  rcases hx with rfl | rfl | rfl | rfl | rfl | rfl | rfl <;> exact h
end
local macro_rules | `(tactic| walk_at "truthy str") => `(tactic| (k_here; (with_reducible show wpAny _ _ (truthy (Value.str ⟨#[_]⟩ _)) _ _ _); k_dflt (refine truthy_sign ?_; intro tk')))
local macro_rules | `(tactic| walk_at "compareOp In str ref") => `(tactic| (k_here; (with_reducible show wpAny _ _ (compareOp CmpOp.In _ (Value.ref 155)) _ _ _); k_dflt (refine' in_narrow ?F ?X ?hx ?hb ?_; (case F => k_asm); (case X => k_asm); (case hx => assumption); (case hb => assumption); k_whole)))
local macro_rules | `(tactic| walk_at "compareOp In str ref") => `(tactic| (k_here; k_dflt (refine' in_special ?N ?m ?HS ?hb ?_; (case HS => assumption); (case hb => first | assumption | exact rfl); (case N => k_asm); (case m => k_mem); k_whole; intro tk')))
local macro_rules | `(tactic| walk_at "call ref") => `(tactic| (k_here; (with_reducible show wpAny _ _ (call (Value.ref 185) _) _ _ _); k_dflt (refine' size_use (w := _) ?hc ?hh ?F ?X ?N ?T ?hd ?hu ?_; (case hc => assumption); (case hh => first | exact rfl | assumption); (case F => k_asm); (case X => k_asm); (case N => k_asm); (case T => k_asm); (case hd => walk_at "my room"); (case hu => walk_at "my units"); k_whole; intro u' h' tk' F' N'; (try k_sweep))))

/-- the loop of split_graphemes: what stands before a turn -/
def GrStart (w : World) (l : List Nat) (t tu : Tok) (g : Heap) (L : Addr) (s₀ : Shared) (n : Nat) (s : Shared) : Prop :=
  ∃ (h : Heap) (tk : Nat) (m : Str → Option Value) (x dx d sl : Addr) (t4 u1 u2 u4 : Tok) (o : Obj) (k : Nat), s = { s₀ with heap := h, toks := tk } ∧
    Fr g L h (know [(Str.ofString "index", .int ((0 : Nat) : Int) u1), (Str.ofString "codepoint_count", .int (l.length : Nat) u2), (Str.ofString "last_measured_character", .none), (Str.ofString "total_width", .int ((0 : Nat) : Int) u4), (Str.ofString "spans", .ref sl),
      (Str.ofString "SPECIAL", .ref d), (Str.ofString "cell_table", .ref x), (Str.ofString "text", .str ⟨l.toArray⟩ t), (Str.ofString "unicode_version", .str (Str.ofString "auto") tu)] m) ∧
    News g L h ((sl, listOf ([] : List Value).toArray k) :: [(d, o), (x, ctObj dx (.str (Str.ofString "narrow") t4) (.ref 154) (.ref 155)), (dx, emptyDict)]) ∧ (∀ p ∈ [(d, o), (x, ctObj dx (.str (Str.ofString "narrow") t4) (.ref 154) (.ref 155)), (dx, emptyDict)], p.1 ≠ sl) ∧ SpecialSet w o ∧ n = l.length
def GrRun (w : World) (l : List Nat) (t tu : Tok) (g : Heap) (L : Addr) (s₀ : Shared) (n : Nat) (s : Shared) : Prop :=
  ∃ (h : Heap) (tk : Nat) (m : Str → Option Value) (x dx d sl T : Addr) (t4 u1 u2 u4 t1 t2 t3 : Tok) (o : Obj) (k kn : Nat) (ws : List Value) (tl : List (Addr × Obj)) (i tw st sz : Nat) (lm : Option (Nat × Tok)) (cw : Bool) (init : List Span), s = { s₀ with heap := h, toks := tk } ∧
    Fr g L h (know [(Str.ofString "index", .int (i : Nat) u1), (Str.ofString "codepoint_count", .int (l.length : Nat) u2), (Str.ofString "last_measured_character", lmV lm), (Str.ofString "total_width", .int (tw : Nat) u4), (Str.ofString "spans", .ref sl),
      (Str.ofString "SPECIAL", .ref d), (Str.ofString "cell_table", .ref x), (Str.ofString "text", .str ⟨l.toArray⟩ t), (Str.ofString "unicode_version", .str (Str.ofString "auto") tu)] m) ∧
    News g L h ((sl, listOf (ws ++ [Value.ref T]).toArray k) :: (T, tup3 st i sz t1 t2 t3 kn) :: (d, o) :: (x, ctObj dx (.str (Str.ofString "narrow") t4) (.ref 154) (.ref 155)) :: (dx, emptyDict) :: tl) ∧
    (∀ p ∈ (T, tup3 st i sz t1 t2 t3 kn) :: (d, o) :: (x, ctObj dx (.str (Str.ofString "narrow") t4) (.ref 154) (.ref 155)) :: (dx, emptyDict) :: tl, p.1 ≠ sl) ∧ SpecialSet w o ∧
    DatAll tl ws (init.map sdat) ∧ ws.length < i ∧ i ≤ l.length ∧ tw ≤ 2 * i ∧ sz ≤ 2 * i ∧ n = l.length - i ∧ (∀ c u, lm = some (c, u) → Plain c ∧ wid c ≠ 0 ∧ cw = n2w c) ∧ (lm = none → cw = false) ∧
    init ++ go i (l.drop i) st sz cw = pcs l ∧ tw + tot (l.drop i) cw = total l
def GrJ (w : World) (l : List Nat) (t tu : Tok) (g : Heap) (L : Addr) (s₀ : Shared) (n : Nat) (s : Shared) : Prop := GrStart w l t tu g L s₀ n s ∨ GrRun w l t tu g L s₀ n s


theorem gr_close {w : World} {l : List Nat} {t tu : Tok} {g h : Heap} {L D sl x dx d : Addr} {s₀ : Shared} {n tk k kn : Nat} {f : Str → Option Value} {rest : List (Addr × Obj)} {ws : List Value} {a b c ai aw : Int} {t1 t2 t3 u1 u2 u4 t4 : Tok} {lv : Value} {o : Obj}
    (st i sz tw : Nat) (lm : Option (Nat × Tok)) (cw : Bool) (init : List Span)
    (F : Fr g L h f) (N : News g L h ((D, tup3 a b c t1 t2 t3 kn) :: (sl, listOf (ws ++ [Value.ref D]).toArray k) :: rest)) (hDs : D ≠ sl) (off : ∀ p ∈ rest, p.1 ≠ sl)
    (hk : Knows [(Str.ofString "index", .int ai u1), (Str.ofString "codepoint_count", .int (l.length : Nat) u2), (Str.ofString "last_measured_character", lv), (Str.ofString "total_width", .int aw u4), (Str.ofString "spans", .ref sl),
      (Str.ofString "SPECIAL", .ref d), (Str.ofString "cell_table", .ref x), (Str.ofString "text", .str ⟨l.toArray⟩ t), (Str.ofString "unicode_version", .str (Str.ofString "auto") tu)] f)
    (m1 : (d, o) ∈ rest) (m2 : (x, ctObj dx (.str (Str.ofString "narrow") t4) (.ref 154) (.ref 155)) ∈ rest) (m3 : (dx, emptyDict) ∈ rest) (HS : SpecialSet w o) (hD : DatAll rest ws (init.map sdat))
    (hlv : lv = lmV lm) (ha : a = (st : Nat)) (hb : b = (i : Nat)) (hc : c = (sz : Nat)) (hai : ai = (i : Nat)) (haw : aw = (tw : Nat))
    (b1 : ws.length < i) (b2 : i ≤ l.length) (b3 : tw ≤ 2 * i) (b4 : sz ≤ 2 * i) (hn : l.length - i < n) (hlm : ∀ c u, lm = some (c, u) → Plain c ∧ wid c ≠ 0 ∧ cw = n2w c) (hl0 : lm = none → cw = false)
    (hg : init ++ go i (l.drop i) st sz cw = pcs l) (ht : tw + tot (l.drop i) cw = total l) : WhileNext (GrJ w l t tu g L s₀) n { s₀ with heap := h, toks := tk } := by
  subst hlv ha hb hc hai haw
  refine WhileNext.intro _ hn (.inr ⟨h, tk, f, x, dx, d, sl, D, t4, u1, u2, u4, t1, t2, t3, o, k, kn, ws, rest, i, tw, st, sz, lm, cw, init, rfl, fr_kn _ F hk, fun p hp => ?_, fun p hp => ?_, HS, hD, b1, b2, b3, b4, rfl, hlm, hl0, hg, ht⟩)
  · rcases List.mem_cons.mp hp with rfl | hp
    · exact N _ (.tail _ (.head _))
    · rcases List.mem_cons.mp hp with rfl | hp
      · exact N _ (.head _)
      · refine N _ (.tail _ (.tail _ ?_))
        rcases List.mem_cons.mp hp with rfl | hp
        · exact m1
        · rcases List.mem_cons.mp hp with rfl | hp
          · exact m2
          · rcases List.mem_cons.mp hp with rfl | hp
            · exact m3
            · exact hp
  · rcases List.mem_cons.mp hp with rfl | hp
    · exact hDs
    · refine off _ ?_
      rcases List.mem_cons.mp hp with rfl | hp
      · exact m1
      · rcases List.mem_cons.mp hp with rfl | hp
        · exact m2
        · rcases List.mem_cons.mp hp with rfl | hp
          · exact m3
          · exact hp

theorem gr_core (w : World) {l : List Nat} (hl : ∀ c ∈ l, Sign c) (hn : l.length < 1000) {t t' : Tok} {args : List Value} (ha : args = [.str ⟨l.toArray⟩ t, .str (Str.ofString "auto") t'] ∨ (args = [.str ⟨l.toArray⟩ t] ∧ t' = 526)) : Raw PySem.Challenge.rw_fe0297_01.row.prog w (hd.heap_39 w.params) 216 [] args 30 100
    (Keep [] fun tl r => ∃ (T sl : Addr) (vs : List Value) (k kn : Nat) (u : Tok), r = .ref T ∧ (T, ({ cls := .type "tuple", data := .seq [Value.ref sl, Value.int (total l : Nat) u].toArray kn } : Obj)) ∈ tl ∧ (sl, listOf vs.toArray k) ∈ tl ∧ DatAll tl vs ((pcs l).map sdat)) := by
  refine raw_of [(Str.ofString "text", .str ⟨l.toArray⟩ t), (Str.ofString "unicode_version", .str (Str.ofString "auto") t')] (by k_is) (by k_is) (fun s X => by rcases ha with rfl | ⟨rfl, rfl⟩ <;> exact binds_K X rfl (by k_is) rfl rfl rfl) (locs rfl) (by decide) rfl rfl rfl ?_
  intro dp un gd outer g L mg mb p loose s F X N T hd hu
  replace F : Fr g L s.heap (fun y => List.lookup y [(Str.ofString "unicode_version", .str (Str.ofString "auto") t'), (Str.ofString "text", .str ⟨l.toArray⟩ t)]) := F
  show wpAny _ _ _ _ _ _
  k_fold
  k_steps
  refine Halt.out ?_
  rename Fr _ _ _ _ => F2
  rename News _ _ _ _ => N2
  rename Obj.SetObjOf _ _ _ (0 + 1 + 1) => HS
  try clear F N
  refine While_on (GrJ w l t t' g L s) l.length (.inl ⟨_, _, _, _, _, _, _, _, _, _, _, _, _, rfl, fr_kn [(Str.ofString "index", _), (Str.ofString "codepoint_count", _), (Str.ofString "last_measured_character", _), (Str.ofString "total_width", _), (Str.ofString "spans", _),
      (Str.ofString "SPECIAL", _), (Str.ofString "cell_table", _), (Str.ofString "text", _), (Str.ofString "unicode_version", _)] F2 (by walk_at "knows"), cb_drop N2 (by walk_at "news in"), ?_, HS, rfl⟩) ?_
  · refine List.forall_mem_cons.mpr ⟨by k_ne, List.forall_mem_cons.mpr ⟨by k_ne, List.forall_mem_cons.mpr ⟨by k_ne, fun _ h => nomatch h⟩⟩⟩
  clear F2 N2 HS
  rintro n s₁ (J | J)
  · obtain ⟨h, tk, m, x, dx, d, sl, t4, u1, u2, u4, o, k, rfl, F, N, off, HS, rfl⟩ := J
    by_cases h0 : 0 < l.length
    · obtain ⟨c, hc⟩ : ∃ c, l[0]? = some c := ⟨_, List.getElem?_eq_getElem h0⟩
      have hld : l = c :: l.drop 1 := by
        cases l with
        | nil => cases hc
        | cons a r => cases hc; rfl
      have hp : go 1 (l.drop 1) 0 (wid c) (n2w c) = pcs l := by rw [hld]; rfl
      have hq : wid c + tot (l.drop 1) (n2w c) = total l := by rw [hld]; rfl
      have hS : Sign c := hl _ (List.mem_of_getElem? hc)
      by_cases hb : (c == 8205 || c == 65039) = true
      · have hw : wid c = 0 ∧ n2w c = false := by
          simp only [Bool.or_eq_true, beq_iff_eq] at hb
          rcases hb with rfl | rfl <;> decide
        rw [hw.1, hw.2] at hp hq
        show wpAny _ _ _ _ _ _
        k_fold
        k_steps
        exact gr_close 0 1 0 0 none false [] (by assumption) (by assumption) (by k_ne) off (by walk_at "knows") (by k_mem) (by k_mem) (by k_mem) HS .nil rfl rfl rfl rfl rfl rfl (by simp) (by omega) (by omega) (by omega) (by omega) (fun _ _ h => nomatch h) (fun _ => rfl) hp hq
      · replace hb : (c == 8205 || c == 65039) = false := by simpa using hb
        have hP : Plain c := by
          simp only [Bool.or_eq_false_iff, beq_eq_false_iff_ne] at hb
          unfold Sign at hS
          unfold Plain
          omega
        show wpAny _ _ _ _ _ _
        k_fold
        k_steps
        · exact gr_close 0 1 (wid c) (wid c) (some (c, _)) (n2w c) [] (by assumption) (by assumption) (by k_ne) off (by walk_at "knows") (by k_mem) (by k_mem) (by k_mem) HS .nil rfl rfl rfl rfl rfl (by omega) (by simp) (by omega) (by have := wid_le c; omega) (by have := wid_le c; omega) (by omega) (fun _ _ h => by cases h; exact ⟨hP, by omega, rfl⟩) (fun h => nomatch h) hp hq
        · have hw : wid c = 0 := by omega
          rw [hw, n2w_zero hw] at hp hq
          exact gr_close 0 1 0 0 none false [] (by assumption) (by assumption) (by k_ne) off (by walk_at "knows") (by k_mem) (by k_mem) (by k_mem) HS .nil rfl rfl rfl rfl rfl rfl (by simp) (by omega) (by omega) (by omega) (by omega) (fun _ _ h => nomatch h) (fun _ => rfl) hp hq
    · show wpAny _ _ _ _ _ _
      k_fold
      k_steps
      have hl0 : l = [] := by cases l with | nil => rfl | cons a r => simp at h0
      subst hl0
      exact RetP.intro [_, _] (by assumption) (by assumption) (by walk_at "news in") ⟨_, _, [], _, _, _, rfl, .head _, .tail _ (.head _), .nil⟩
  · obtain ⟨h, tk, m, x, dx, d, sl, T, t4, u1, u2, u4, t1, t2, t3, o, k, kn, ws, tl, i, tw, st, sz, lm, cw, init, rfl, F, N, off, HS, hD, b1, b2, b3, b4, rfl, hlm, hl0, hg, ht⟩ := J
    have hDm : DatAll ((T, tup3 st i sz t1 t2 t3 kn) :: (d, o) :: (x, ctObj dx (.str (Str.ofString "narrow") t4) (.ref 154) (.ref 155)) :: (dx, emptyDict) :: tl) ws (init.map sdat) := hD.mono fun p hp => .tail _ (.tail _ (.tail _ (.tail _ hp)))
    have hDa : DatAll ((T, tup3 st i sz t1 t2 t3 kn) :: (d, o) :: (x, ctObj dx (.str (Str.ofString "narrow") t4) (.ref 154) (.ref 155)) :: (dx, emptyDict) :: tl) (ws ++ [Value.ref T]) ((init ++ [(st, i, sz)]).map sdat) := by
      rw [List.map_append]
      exact hDm.append (.one (.tuple (.head _) (.cons (.int _ _) (.cons (.int _ _) (.cons (.int _ _) .nil)))))
    by_cases h0 : i < l.length
    · obtain ⟨c, hc⟩ : ∃ c, l[i]? = some c := ⟨_, List.getElem?_eq_getElem h0⟩
      have hld : l.drop i = c :: l.drop (i + 1) := by
        rw [List.drop_eq_getElem_cons h0]
        congr 1
        rw [List.getElem?_eq_getElem h0] at hc
        exact Option.some.inj hc
      have hS : Sign c := hl _ (List.mem_of_getElem? hc)
      rw [hld] at hg ht
      by_cases hb : (c == 8205 || c == 65039) = true
      · have hcc : c = 8205 ∨ c = 65039 := by simpa using hb
        rcases hcc with rfl | rfl
        · by_cases h2 : i + 1 < l.length
          · have hld2 : l.drop (i + 1) = l[i + 1] :: l.drop (i + 2) := List.drop_eq_getElem_cons h2
            rw [hld2, go_zwj] at hg
            rw [hld2, tot_zwj] at ht
            show wpAny _ _ _ _ _ _
            k_fold
            k_steps
            exact gr_close st (i + 2) sz tw lm cw init (by assumption) (by assumption) (by k_ne) off (by walk_at "knows") (by k_mem) (by k_mem) (by k_mem) HS hDm rfl rfl rfl rfl rfl rfl (by omega) (by omega) (by omega) (by omega) (by omega) hlm hl0 hg ht
          · have hi : l.drop (i + 1) = [] := List.drop_eq_nil_of_le (by omega)
            have hg' : init ++ go (i + 1) (l.drop (i + 1)) st sz cw = pcs l := by rw [hi] at hg ⊢; rw [go_zwj_nil] at hg; exact hg
            have ht' : tw + tot (l.drop (i + 1)) cw = total l := by rw [hi] at ht ⊢; rw [tot_zwj_nil] at ht; exact ht
            show wpAny _ _ _ _ _ _
            k_fold
            k_steps
            exact gr_close st (i + 1) sz tw lm cw init (by assumption) (by assumption) (by k_ne) off (by walk_at "knows") (by k_mem) (by k_mem) (by k_mem) HS hDm rfl rfl rfl rfl rfl rfl (by omega) (by omega) (by omega) (by omega) (by omega) hlm hl0 hg' ht'
        · rw [go_vs] at hg
          rw [tot_vs] at ht
          rcases lm with _ | ⟨x₁, ux⟩
          · have hcw := hl0 rfl
            subst hcw
            dsimp only [lmV] at F
            show wpAny _ _ _ _ _ _
            k_fold
            k_steps
            exact gr_close st (i + 1) sz tw none false init (by assumption) (by assumption) (by k_ne) off (by walk_at "knows") (by k_mem) (by k_mem) (by k_mem) HS hDm rfl rfl rfl rfl rfl rfl (by omega) (by omega) (by omega) (by omega) (by omega) (fun _ _ h => nomatch h) (fun _ => rfl) hg (by simpa using ht)
          · obtain ⟨hx1, hx2, hx3⟩ := hlm _ _ rfl
            dsimp only [lmV] at F
            show wpAny _ _ _ _ _ _
            rcases hb2 : n2w x₁ with _ | _
            · rw [hb2] at hx3
              subst hx3
              k_fold
              k_steps
              exact gr_close st (i + 1) sz tw (some (x₁, ux)) false init (by assumption) (by assumption) (by k_ne) off (by walk_at "knows") (by k_mem) (by k_mem) (by k_mem) HS hDm rfl rfl rfl rfl rfl rfl (by omega) (by omega) (by omega) (by omega) (by omega) (fun _ _ h => by cases h; exact ⟨hx1, hx2, hb2.symm⟩) (fun h => nomatch h) hg (by simpa using ht)
            · rw [hb2] at hx3
              subst hx3
              k_fold
              k_steps
              exact gr_close st (i + 1) (sz + 1) (tw + 1) none false init (by assumption) (by assumption) (by k_ne) off (by walk_at "knows") (by k_mem) (by k_mem) (by k_mem) HS hDm rfl rfl rfl rfl rfl rfl (by omega) (by omega) (by omega) (by omega) (by omega) (fun _ _ h => nomatch h) (fun _ => rfl) hg (by simp at ht; omega)
      · replace hb : (c == 8205 || c == 65039) = false := by simpa using hb
        have hP : Plain c := by
          simp only [Bool.or_eq_false_iff, beq_eq_false_iff_ne] at hb
          unfold Sign at hS
          unfold Plain
          omega
        have hb' : c ≠ 8205 ∧ c ≠ 65039 := by simpa using hb
        show wpAny _ _ _ _ _ _
        k_fold
        k_steps
        · have hw : wid c ≠ 0 := by omega
          rw [go_wide hb'.1 hb'.2 hw] at hg
          rw [tot_wide hb'.1 hb'.2 hw] at ht
          exact gr_close i (i + 1) (wid c) (tw + wid c) (some (c, _)) (n2w c) (init ++ [(st, i, sz)]) (by assumption) (by assumption) (by k_ne) off (by walk_at "knows") (by k_mem) (by k_mem) (by k_mem) HS hDa rfl rfl rfl rfl rfl (by omega) (by simp; omega) (by omega) (by have := wid_le c; omega) (by have := wid_le c; omega) (by omega) (fun _ _ h => by cases h; exact ⟨hP, hw, rfl⟩) (fun h => nomatch h) (by simpa using hg) (by omega)
        · have hw : wid c = 0 := by omega
          rw [go_zero hb'.1 hb'.2 hw] at hg
          rw [tot_zero hb'.1 hb'.2 hw] at ht
          exact gr_close st (i + 1) sz tw lm cw init (by assumption) (by assumption) (by k_ne) off (by walk_at "knows") (by k_mem) (by k_mem) (by k_mem) HS hDm rfl rfl rfl rfl rfl rfl (by omega) (by omega) (by omega) (by omega) (by omega) hlm hl0 hg ht
    · have hi : i = l.length := by omega
      have hd0 : l.drop i = [] := List.drop_eq_nil_of_le (by omega)
      rw [hd0] at hg ht
      replace hg : init ++ [(st, i, sz)] = pcs l := hg
      replace ht : tw = total l := ht
      rw [hg] at hDa
      subst ht
      show wpAny _ _ _ _ _ _
      k_fold
      k_steps
      exact RetP.intro ((_, _) :: (sl, listOf (ws ++ [Value.ref T]).toArray k) :: (T, tup3 st i sz t1 t2 t3 kn) :: (d, o) :: (x, ctObj dx (.str (Str.ofString "narrow") t4) (.ref 154) (.ref 155)) :: (dx, emptyDict) :: tl) (by assumption) (by assumption) (by walk_at "news in")
        ⟨_, _, _, _, _, _, rfl, .head _, .tail _ (.head _), hDa.mono fun p hp => .tail _ (.tail _ hp)⟩
theorem gr_gives (w : World) {l : List Nat} (hl : ∀ c ∈ l, Sign c) (hn : l.length < 1000) {t t' : Tok} : Raw PySem.Challenge.rw_fe0297_01.row.prog w (hd.heap_39 w.params) 216 [] [.str ⟨l.toArray⟩ t, .str (Str.ofString "auto") t'] 30 100
    (Keep [] fun tl r => ∃ (T sl : Addr) (vs : List Value) (k kn : Nat) (u : Tok), r = .ref T ∧ (T, ({ cls := .type "tuple", data := .seq [Value.ref sl, Value.int (total l : Nat) u].toArray kn } : Obj)) ∈ tl ∧ (sl, listOf vs.toArray k) ∈ tl ∧ DatAll tl vs ((pcs l).map sdat)) := gr_core w hl hn (.inl rfl)
theorem gr_gives1 (w : World) {l : List Nat} (hl : ∀ c ∈ l, Sign c) (hn : l.length < 1000) {t : Tok} : Raw PySem.Challenge.rw_fe0297_01.row.prog w (hd.heap_39 w.params) 216 [] [.str ⟨l.toArray⟩ t] 30 100
    (Keep [] fun tl r => ∃ (T sl : Addr) (vs : List Value) (k kn : Nat) (u : Tok), r = .ref T ∧ (T, ({ cls := .type "tuple", data := .seq [Value.ref sl, Value.int (total l : Nat) u].toArray kn } : Obj)) ∈ tl ∧ (sl, listOf vs.toArray k) ∈ tl ∧ DatAll tl vs ((pcs l).map sdat)) := gr_core w hl hn (.inr ⟨rfl, rfl⟩)
end Mine
namespace Mine
open PySem PySem.Spec PySem.Calls PyProof.Rows PySem.W
local macro_rules | `(tactic| walk_at "news in") => `(tactic| first | (with_reducible exact sub_self) | (with_reducible exact sub_nil) | ((with_reducible refine sub_cons ?a1 ?a2); (case a1 => k_mem); (case a2 => walk_at "news in")) | ((with_reducible refine sub_app ?a1 ?a2); (case a1 => walk_at "news in"); (case a2 => walk_at "news in")) | ((with_reducible refine sub_skip ?_); walk_at "news in") | ((with_reducible refine sub_appL ?_); walk_at "news in") | ((with_reducible refine sub_appR ?_); walk_at "news in"))
local macro_rules | `(tactic| k_room) => `(tactic| ktr_room)
local macro_rules | `(tactic| walk_at "my room") => `(tactic| ((try dsimp only); first | ktr_room | omega))
local macro_rules | `(tactic| walk_at "my units") => `(tactic| ((try dsimp only); first | ktr_units | omega))
local macro_rules | `(tactic| walk_at "my given") => `(tactic| ((case hh => first | exact rfl | assumption); (case F => k_asm); (case X => k_asm); (case N => k_asm); (case T => k_asm); (case hs => walk_at "news in"); (case hd => walk_at "my room"); (case hu => walk_at "my units")))
local macro_rules | `(tactic| walk_at "getMethod type:tuple") => `(tactic| (k_here; refine' method_type ?F ?X ?m (by decide +kernel) ?e ?h ?_; (case F => k_asm); (case X => k_asm); (case m => exact meta_tuple'); (case e => k_dflt k_is); (case h => k_handed)))
local macro_rules | `(tactic| walk_at "ForPost") => `(tactic| dsimp only [ForPost])
local macro_rules | `(tactic| walk_at "WhilePost") => `(tactic| dsimp only [WhilePost])
local macro_rules | `(tactic| walk_at "knows") => `(tactic| first | exact kn_nil | (refine kn_cons ?a1 ?a2; (case a1 => first | with_reducible assumption | exact rfl | with_unfolding_all exact rfl); (case a2 => walk_at "knows")))
local macro_rules | `(tactic| walk_at "WhileEnd") => `(tactic| dsimp only [WhileEnd])
local macro_rules | `(tactic| walk_at "call ref") => `(tactic| (k_here; (with_reducible show wpAny _ _ (call (Value.ref 163) _) _ _ _); k_dflt (refine' load_use ?hh ?F ?X ?N ?T ?hd ?hu ?_; (case hh => first | exact rfl | assumption); (case F => k_asm); (case X => k_asm); (case N => k_asm); (case T => k_asm); (case hd => walk_at "my room"); (case hu => walk_at "my units"); k_whole; intro x' dx' t' h' tk' F' N'; (try k_sweep))))
local macro_rules | `(tactic| walk_at "getAttr ref") => `(tactic| (k_here; k_dflt (first
  | ((with_reducible show wpAny _ _ (getAttr _ (Str.ofString "widths") _) _ _ _); refine' widths_ct ?hh ?F ?X ?N ?m1 ?m2 ?T ?hd ?hu ?h9 ?_; (case hh => first | exact rfl | assumption); (case F => k_asm); (case X => k_asm); (case N => k_asm); (case m1 => k_mem); (case m2 => k_mem); (case T => k_asm); (case hd => walk_at "my room"); (case hu => walk_at "my units"); (case h9 => exact rfl); k_whole; intro h' tk' F' N'; (try k_sweep))
  | ((with_reducible show wpAny _ _ (getAttr _ (Str.ofString "narrow_to_wide") _) _ _ _); refine' narrow_ct ?hh ?F ?X ?N ?m1 ?m2 ?T ?hd ?hu ?h9 ?_; (case hh => first | exact rfl | assumption); (case F => k_asm); (case X => k_asm); (case N => k_asm); (case m1 => k_mem); (case m2 => k_mem); (case T => k_asm); (case hd => walk_at "my room"); (case hu => walk_at "my units"); (case h9 => exact rfl); k_whole; intro h' tk' F' N'; (try k_sweep)))))
local macro_rules | `(tactic| walk_at "exec For Name Name cons nil") => `(tactic| refine halt ?_)
local macro_rules | `(tactic| walk_at "exec For Name Call cons nil") => `(tactic| refine halt ?_)
local macro_rules | `(tactic| walk_at "exec For Tuple Name cons nil") => `(tactic| refine halt ?_)
local macro_rules | `(tactic| walk_at "exec For Tuple Name cons cons") => `(tactic| refine halt ?_)
local macro_rules | `(tactic| walk_at "exec While Compare cons nil") => `(tactic| refine halt ?_)
local macro_rules | `(tactic| walk_at "exec While Constant cons nil") => `(tactic| refine halt ?_)
local macro_rules | `(tactic| walk_at "eval GeneratorExp") => `(tactic| refine halt ?_)
local macro_rules | `(tactic| walk_at "call builtin:sum") => `(tactic| refine halt ?_)
local macro_rules | `(tactic| walk_at "call builtin:len") => `(tactic| (k_here; (with_reducible show wpAny _ _ (call (Value.builtin "len") [Value.str ⟨List.toArray _⟩ _]) _ _ _); k_dflt (refine len_sg (by omega) ?_; intro u' tk')))
local macro_rules | `(tactic| walk_at "subscriptTail") => `(tactic| (k_here; (with_reducible show wpAny _ _ (subscriptTail _ _ (Value.str ⟨List.toArray _⟩ _) (Value.int (Nat.cast _) _)) _ _ _); k_dflt (refine item_sg (by omega) (by assumption) ?_; intro u' tk')))
local macro_rules | `(tactic| walk_at "subscriptTail Name Name str int") => `(tactic| (k_here; (with_reducible show wpAny _ _ (subscriptTail _ _ (Value.str ⟨List.toArray _⟩ _) (Value.int (Nat.cast _) _)) _ _ _); k_dflt (refine item_sg (by omega) (by assumption) ?_; intro u' tk')))
local macro_rules | `(tactic| walk_at "subscriptTail") => `(tactic| (k_here; (with_reducible show wpAny _ _ (subscriptTail _ _ (Value.ref _) (Value.int _ _)) _ _ _); k_dflt (refine' item_last ?N ?m ?_ ?s; (case N => k_asm); (case m => k_mem); (case s => with_unfolding_all rfl); k_whole)))
local macro_rules | `(tactic| walk_at "subscriptTail Name UnaryOp ref int") => `(tactic| (k_here; (with_reducible show wpAny _ _ (subscriptTail _ _ (Value.ref _) (Value.int _ _)) _ _ _); k_dflt (refine' item_last ?N ?m ?_ ?s; (case N => k_asm); (case m => k_mem); (case s => with_unfolding_all rfl); k_whole)))
local macro_rules | `(tactic| walk_at "subscriptTail Name Constant ref int") => `(tactic| (k_here; (with_reducible show wpAny _ _ (subscriptTail _ _ (Value.ref _) (Value.int _ _)) _ _ _); k_dflt (refine' item_last ?N ?m ?_ ?s; (case N => k_asm); (case m => k_mem); (case s => with_unfolding_all rfl); k_whole)))
local macro_rules | `(tactic| walk_at "my upd") => `(tactic| first | exact Upd.head (by assumption) | (refine' Upd.tail ?a ?b; (case a => k_ne); (case b => walk_at "my upd")))
local macro_rules | `(tactic| walk_at "setItem ref int") => `(tactic| (k_here; (with_reducible show wpAny _ _ (PySem.setItem (Value.ref _) (Value.int _ _) (Value.ref _)) _ _ _); k_dflt (refine' set_last ?F ?N ?U ?_; (case F => k_asm); (case N => k_asm); (case U => walk_at "my upd"); k_whole); intro h' F' N'; (try k_sweep)))
local macro_rules | `(tactic| walk_at "setItem ref int ref") => `(tactic| (k_here; (with_reducible show wpAny _ _ (PySem.setItem (Value.ref _) (Value.int _ _) (Value.ref _)) _ _ _); k_dflt (refine' set_last ?F ?N ?U ?_; (case F => k_asm); (case N => k_asm); (case U => walk_at "my upd"); k_whole); intro h' F' N'; (try k_sweep)))
local macro_rules | `(tactic| walk_at "call builtin:list.append") => `(tactic| (k_here; (with_reducible show wpAny _ _ (call (Value.builtin _) [Value.ref _, _]) _ _ _); k_dflt (refine' append_l ?F ?N ?U ?_ ?z; (case F => k_asm); (case N => k_asm); (case U => walk_at "my upd"); (case z => first | assumption | (simp; done) | (simp; omega)); k_whole); intro h' F' N'; (try k_sweep)))
local macro_rules | `(tactic| walk_at "truthy ref") => `(tactic| (k_here; (with_reducible show wpAny _ _ (truthy (Value.ref _)) _ _ _); k_dflt (refine' truthy_snoc ?N ?m ?z ?_; (case N => k_asm); (case m => k_mem); (case z => first | assumption | omega); k_whole; intro tk')))
local macro_rules | `(tactic| walk_at "truthy str") => `(tactic| (k_here; (with_reducible show wpAny _ _ (truthy (Value.str ⟨#[_]⟩ _)) _ _ _); k_dflt (refine truthy_sign ?_; intro tk')))
local macro_rules | `(tactic| walk_at "compareOp In str ref") => `(tactic| (k_here; (with_reducible show wpAny _ _ (compareOp CmpOp.In _ (Value.ref 155)) _ _ _); k_dflt (refine' in_narrow ?F ?X ?hx ?hb ?_; (case F => k_asm); (case X => k_asm); (case hx => assumption); (case hb => assumption); k_whole)))
local macro_rules | `(tactic| walk_at "compareOp In str ref") => `(tactic| (k_here; k_dflt (refine' in_special ?N ?m ?HS ?hb ?_; (case HS => assumption); (case hb => first | assumption | exact rfl); (case N => k_asm); (case m => k_mem); k_whole; intro tk')))
local macro_rules | `(tactic| walk_at "call ref") => `(tactic| (k_here; (with_reducible show wpAny _ _ (call (Value.ref 185) _) _ _ _); k_dflt (refine' size_use (w := _) ?hc ?hh ?F ?X ?N ?T ?hd ?hu ?_; (case hc => assumption); (case hh => first | exact rfl | assumption); (case F => k_asm); (case X => k_asm); (case N => k_asm); (case T => k_asm); (case hd => walk_at "my room"); (case hu => walk_at "my units"); k_whole; intro u' h' tk' F' N'; (try k_sweep))))
theorem fill6 : ∀ (w : World) (h : Heap), (hd.heap_39 w.params).In h → PySem.Challenge.rw_fe0297_01.row.prog = PySem.Challenge.rw_fe0297_01.row.prog → True := by
  k_fill
  intros
  trivial

section
variable {w : World} {A : Around} {E : Value → Shared → Prop} {s : Shared} {h₀ : Heap} {L d : Addr} {m mg mb : Str → Option Value} {p : Program} {loose : List Str} {news : List (Addr × Obj)} {o : Obj} {c : Nat} {b : Bool} {t u u' : Tok} {l : List Nat} {Q : Value → Shared → Prop}
theorem notin_sg {y : Str} (hy : y = ⟨#[c]⟩) (h : Q (.bool (!l.contains c)) s) : wpAny (model PySem.Challenge.rw_fe0297_01.row.prog w) A (compareOp .NotIn (.str y u) (.str ⟨l.toArray⟩ t)) Q E s := by
  subst hy
  refine P.notIn_str ?_
  rw [occ_sign]; exact h
theorem single_use (hl : ∀ c ∈ l, Sign c) (hh : A.handled = none) (F : Fr h₀ L s.heap m) (X : (hd.heap_39 w.params).In h₀) (N : News h₀ L s.heap news) (T : TopRead p loose mg mb h₀) (hD : A.depth + 14 < recursionLimit) (hU : A.units + 60 < cLine)
    (h : ∀ h' tk, Fr h₀ L h' m → News h₀ L h' news → Q (.bool (l.all one)) { s with heap := h', toks := tk }) :
    wpAny (model PySem.Challenge.rw_fe0297_01.row.prog w) A (call (.ref 177) [.str ⟨l.toArray⟩ t]) Q E s := by
  refine Gives.use (single_gives w hl) hh F X N T (fun _ h => nomatch h) hD hU ?_
  rintro r tl h' tk' F' N' ⟨rfl, rfl⟩
  exact h h' tk' F' N'
theorem size_use2 {c : Nat} (hc : Plain c) (hh : A.handled = none) (F : Fr h₀ L s.heap m) (X : (hd.heap_39 w.params).In h₀) (N : News h₀ L s.heap news) (T : TopRead p loose mg mb h₀) (hD : A.depth + 15 < recursionLimit) (hU : A.units + 60 < cLine)
    (h : ∀ t h' tk, (∀ b o, s.heap.get? b = some o → h'.get? b = some o) → Fr h₀ L h' m → News h₀ L h' news → Q (.int (wid c : Nat) t) { s with heap := h', toks := tk }) :
    wpAny (model PySem.Challenge.rw_fe0297_01.row.prog w) A (call (.ref 185) [.str ⟨#[c]⟩ u, .str (Str.ofString "auto") u']) Q E s := by
  refine size_gives w hc A mg mb p loose s Q E hh (X.keeps F.keep) (T.keeps F.keep) (fun _ h => nomatch h) hD hU ?_
  rintro r nw h' tk' gs' k kn ⟨e, tl, e2, e3, t, e4⟩
  subst e e4
  exact h t h' tk' k (F.keeps k) (fun p hp => ⟨k _ _ (N p hp).1, (N p hp).2⟩)
theorem loadX_L {cn : Str} {cs : Scope} {a : Addr} {ccd v : Value} {cl : List (Str × Addr)} {x : Str} (F : Fr h₀ L s.heap m) (hv : m x = some v) (h : Q v s) (hk : cs.kind = .function := by rfl) (hx : (envX cn cs L a ccd cl).kindOf x = some .local := by rfl) :
    wpAny (model PySem.Challenge.rw_fe0297_01.row.prog w) A (loadName (envX cn cs L a ccd cl) x) Q E s := wpAny_loadName_local hk hx F.ns hv h
variable {K : Frag} {C : Addr} {m₂ : Str → Option Value} {scope : Scope} {cl : List (Str × Addr)} {code v : Value} {env : Env} {x : Str} {pos : Pos}
theorem gen_local (F : Fr h₀ C s.heap m₂) (hv : m₂ x = some v) (h : Q v s) (hk : (genEnv scope cl C code builtinsNs env).scope.kind = .function := by rfl) (hx : (genEnv scope cl C code builtinsNs env).kindOf x = some .local := by rfl) (hd : (x == ("__debug__" : Str)) = false := by decide) :
    wpAny (model PySem.Challenge.rw_fe0297_01.row.prog w) A (eval (.Name x pos) (genEnv scope cl C code builtinsNs env)) Q E s := wpAny_Name (wpAny_loadName_local hk hx F.ns hv h) hd
theorem gen_free {ca : Addr} (N : News h₀ C s.heap news) (hc : cl.lookup x = some ca) (hm : (ca, o) ∈ news) (hd : o.data = .cell (some v)) (h : Q v s)
    (hk : (genEnv scope cl C code builtinsNs env).scope.kind = .function := by rfl) (hx : (genEnv scope cl C code builtinsNs env).kindOf x = some .free := by rfl) (hb : (x == ("__debug__" : Str)) = false := by decide) (hn : (x == ("__classdict__" : Str)) = false := by decide) :
    wpAny (model PySem.Challenge.rw_fe0297_01.row.prog w) A (eval (.Name x pos) (genEnv scope cl C code builtinsNs env)) Q E s := wpAny_Name (wpAny_loadName_free hk hx hc ⟨o, N.get hm, hd⟩ h hn) hb
theorem gen_global (F : Fr h₀ C s.heap m₂) (X : K.In h₀) (T : TopRead p loose mg mb h₀) (e : nsIn K mainGlobals x = some (some v)) (h : Q v s) (hg : env.globals = mainGlobals := by rfl)
    (hk : (genEnv scope cl C code builtinsNs env).scope.kind = .function := by rfl) (hx : (genEnv scope cl C code builtinsNs env).kindOf x = some .globalImplicit := by rfl) (hd : (x == ("__debug__" : Str)) = false := by decide) :
    wpAny (model PySem.Challenge.rw_fe0297_01.row.prog w) A (eval (.Name x pos) (genEnv scope cl C code builtinsNs env)) Q E s :=
  Name_function_global hk hx (loadGlobal_global (env := genEnv scope cl C code builtinsNs env) (show s.heap.Ns env.globals mg from hg ▸ (T.keeps F.keep).g) (mg_of X T.g e) h) hd
end
local macro_rules | `(tactic| walk_at "loadName") => `(tactic| (k_here; k_dflt (refine loadX_L (by k_asm) (by rfl) ?_)))
local macro_rules | `(tactic| walk_at "eval Name") => `(tactic| (k_here; (with_reducible show wpAny _ _ (eval (Expr.Name _ _) (genEnv _ _ _ _ _ _)) _ _ _); k_dflt (first
  | refine gen_local (by k_asm) (by assumption) ?_
  | refine gen_free (by k_asm) (by rfl) (by k_mem) (by assumption) ?_
  | refine gen_global (by k_asm) (by k_asm) (by k_asm) (by k_is) ?_)))
local macro_rules | `(tactic| walk_at "call ref") => `(tactic| (k_here; (with_reducible show wpAny _ _ (call (Value.ref 185) _) _ _ _); k_dflt (refine' size_use2 (w := _) ?hc ?hh ?F ?X ?N ?T ?hd ?hu ?_; (case hc => assumption); (case hh => first | exact rfl | assumption); (case F => k_asm); (case X => k_asm); (case N => k_asm); (case T => k_asm); (case hd => walk_at "my room"); (case hu => walk_at "my units"); k_whole; intro u' h' tk' k' F' N'; (try k_sweep))))
local macro_rules | `(tactic| walk_at "compareOp NotIn str str") => `(tactic| (k_here; k_dflt (first | (refine notin_sg (c := 8205) (by decide) ?_; k_whole) | (refine notin_sg (c := 65039) (by decide) ?_; k_whole))))
local macro_rules | `(tactic| walk_at "call ref") => `(tactic| (k_here; (with_reducible show wpAny _ _ (call (Value.ref 177) _) _ _ _); k_dflt (refine' single_use (w := _) ?hc ?hh ?F ?X ?N ?T ?hd ?hu ?_; (case hc => assumption); (case hh => first | exact rfl | assumption); (case F => k_asm); (case X => k_asm); (case N => k_asm); (case T => k_asm); (case hd => walk_at "my room"); (case hu => walk_at "my units"); k_whole; intro h' tk' F' N'; (try k_sweep))))


theorem tot_skip (r : List Nat) (cw : Bool) : tot (8205 :: r) cw = tot (r.drop 1) cw := by
  cases r with
  | nil => exact tot_zwj_nil
  | cons d r => exact tot_zwj
theorem sum_cast (l : List Nat) : (l.map fun c => ((wid c : Nat) : Int)).sum = (((l.map wid).sum : Nat) : Int) := by
  induction l with
  | nil => rfl
  | cons c r ih => simp only [List.map_cons, List.sum_cons, ih]; omega
/-- the loop of _cell_len: what stands before a turn -/
def ClJ (w : World) (l : List Nat) (t : Tok) (g : Heap) (L : Addr) (s₀ : Shared) (ps : Array Value) (oc : Obj) (n : Nat) (s : Shared) : Prop :=
  ∃ (h : Heap) (tk : Nat) (m : Str → Option Value) (x dx d : Addr) (t4 u1 u2 u4 : Tok) (o : Obj) (i tw : Nat) (lm : Option (Nat × Tok)) (cw : Bool), s = { s₀ with heap := h, toks := tk } ∧
    Fr g L h (know [(Str.ofString "index", .int (i : Nat) u1), (Str.ofString "character_count", .int (l.length : Nat) u2), (Str.ofString "last_measured_character", lmV lm), (Str.ofString "total_width", .int (tw : Nat) u4),
      (Str.ofString "SPECIAL", .ref d), (Str.ofString "cell_table", .ref x), (Str.ofString "text", .str ⟨l.toArray⟩ t)] m) ∧
    News g L h [(d, o), (x, ctObj dx (.str (Str.ofString "narrow") t4) (.ref 154) (.ref 155)), (dx, emptyDict), (L + 1, oc), (203, tabObj ps)] ∧ SpecialSet w o ∧
    i ≤ l.length + 1 ∧ tw ≤ 2 * i ∧ n = l.length + 1 - i ∧ (∀ c u, lm = some (c, u) → Plain c ∧ wid c ≠ 0 ∧ cw = n2w c) ∧ (lm = none → cw = false) ∧ tw + tot (l.drop i) cw = tot l false
theorem cl_close {w : World} {l : List Nat} {t : Tok} {g h : Heap} {L x dx d : Addr} {s₀ : Shared} {n tk : Nat} {f : Str → Option Value} {ps : Array Value} {oc o : Obj} {ai aw : Int} {t4 u1 u2 u4 : Tok} {lv : Value}
    (i tw : Nat) (lm : Option (Nat × Tok)) (cw : Bool) (F : Fr g L h f) (N : News g L h [(d, o), (x, ctObj dx (.str (Str.ofString "narrow") t4) (.ref 154) (.ref 155)), (dx, emptyDict), (L + 1, oc), (203, tabObj ps)])
    (hk : Knows [(Str.ofString "index", .int ai u1), (Str.ofString "character_count", .int (l.length : Nat) u2), (Str.ofString "last_measured_character", lv), (Str.ofString "total_width", .int aw u4),
      (Str.ofString "SPECIAL", .ref d), (Str.ofString "cell_table", .ref x), (Str.ofString "text", .str ⟨l.toArray⟩ t)] f) (HS : SpecialSet w o)
    (hlv : lv = lmV lm) (hai : ai = (i : Nat)) (haw : aw = (tw : Nat)) (b2 : i ≤ l.length + 1) (b3 : tw ≤ 2 * i) (hn : l.length + 1 - i < n) (hlm : ∀ c u, lm = some (c, u) → Plain c ∧ wid c ≠ 0 ∧ cw = n2w c) (hl0 : lm = none → cw = false)
    (ht : tw + tot (l.drop i) cw = tot l false) : WhileNext (ClJ w l t g L s₀ ps oc) n { s₀ with heap := h, toks := tk } := by
  subst hlv hai haw
  exact WhileNext.intro _ hn ⟨h, tk, f, x, dx, d, t4, u1, u2, u4, o, i, tw, lm, cw, rfl, fr_kn _ F hk, N, HS, b2, b3, rfl, hlm, hl0, ht⟩
theorem cell_gives (w : World) {l : List Nat} (hl : ∀ c ∈ l, Sign c) (hn : l.length < 1000) {t t' : Tok} {ps : Array Value} (hps : TriplesOk ps.toList) : RawB PySem.Challenge.rw_fe0297_01.row.prog w (hd.heap_39 w.params) 208 [(203, tabObj ps)] [.str ⟨l.toArray⟩ t, .str (Str.ofString "auto") t'] 30 100
    (fun gs nw gs' r => ∃ ps', nw = [(203, tabObj ps')] ∧ TriplesOk ps'.toList ∧ (AllBare gs → AllBare gs') ∧ ∃ u, r = .int (tot l false : Nat) u) := by
  refine rawB_ofC [(Str.ofString "text", .str ⟨l.toArray⟩ t), (Str.ofString "unicode_version", .str (Str.ofString "auto") t')] (by k_is) (by k_is) (fun s X => BindsTo.of_eq rfl) (fun n => List.forall_mem_cons.mpr ⟨.inl rfl, List.forall_mem_cons.mpr ⟨.inr ⟨rfl, rfl⟩, fun _ h => nomatch h⟩⟩) (by decide) rfl rfl rfl ?_
  intro dp un gd outer g L mg mb p loose s cells F X N HC hpre T BMh hd hu
  obtain ⟨oc, rfl, hoc⟩ := HC.one
  replace hoc : oc.data = .cell (some (.str (Str.ofString "auto") t')) := hoc
  replace F : Fr g L s.heap (fun y => if y = Str.ofString "text" then some (Value.str ⟨l.toArray⟩ t) else none) := F
  replace N : News g L s.heap [(L + 1, oc), (203, tabObj ps)] := N
  show wpAny _ _ _ _ _ _
  k_fold
  k_steps
  · have h1 : l.all one = true := by assumption
    refine RetP.introG [(203, tabObj ps)] (by assumption) (by assumption) (by walk_at "news in") ⟨ps, rfl, hps, id, ?_⟩
    rw [tot_one l false h1]
    exact ⟨_, rfl⟩
  rotate_left 2
  · refine Halt.out ?_
    rename Fr _ _ _ _ => F2
    rename News _ _ _ _ => N2
    have h1 : l.contains 8205 = false := by assumption
    have h2 : l.contains 65039 = false := by assumption
    obtain ⟨bm, ob, BMm⟩ := BMh
    have hlt : L < L + 1 := Nat.lt_succ_self _
    have h203 : (203 : Nat) < (L : Nat) := hpre _ (.head _)
    have hne : L + 1 ≠ 203 := Nat.ne_of_gt (Nat.lt_succ_of_lt h203)
    refine' gen_make (P := 203) (c := 207) (L := L) (h₀ := g) ?F0 ?C ?BM ?hcode T.nolimit ?hh ?hco ?hclos ?hcell ?h0 ?hx ?hkind ?hroom ?_ ?hs
    case F0 => exact F2
    case C => exact ⟨_, _, _, _, _, _, _, _, _, X 207 _ rfl, rfl, rfl, rfl, rfl, rfl, rfl, rfl, rfl, by decide⟩
    case BM => exact BMm
    case hcode => exact rfl
    case hh => exact rfl
    case hco => exact rfl
    case hclos => with_unfolding_all exact rfl
    case hcell => decide
    case h0 => exact rfl
    case hx => exact rfl
    case hkind => exact rfl
    case hroom => exact (show dp < recursionLimit by omega)
    case hs => intro _; with_unfolding_all exact rfl
    refine nameX_L F2 rfl ?_
    replace N2 : News g L _ [(203, tabObj ps), (L + 1, oc)] := cb_drop N2 (by walk_at "news in")
    refine' src_text (val := fun i => (l.map fun c => ((wid c : Nat) : Int)).getD i 0) ?F ?N ?ht ?off ?_ ?_
    case F => exact F2
    case N => exact N2
    case ht => exact hps
    case off => exact List.forall_mem_cons.mpr ⟨hne, fun _ h => nomatch h⟩
    · intro code C A' E' i c u t2 m₂ hA hD hU hc F3 hm hLC hk
      have hoL : t2.heap.get? (L + 1) = some oc := hk _ _ hne (N2 _ (.tail _ (.head _))).1
      have hN3 : News g C t2.heap [(L + 1, oc)] := fun p hp => by
        rcases List.mem_cons.mp hp with rfl | hp
        · refine ⟨hoL, fun e => ?_, (N2 _ (.tail _ (.head _))).2.2⟩
          obtain ⟨o9, es, ep, ho, hd9, _⟩ := F3.ns
          have e' : L + 1 = C := e
          rw [← e', hoL] at ho
          cases ho
          rw [hoc] at hd9
          cases hd9
        · cases hp
      have hP : Plain c := by
        have hS := hl _ (List.mem_of_getElem? hc)
        have hm1 : c ≠ 8205 := fun e => by subst e; have := List.mem_of_getElem? hc; simp at h1; exact h1 this
        have hm2 : c ≠ 65039 := fun e => by subst e; have := List.mem_of_getElem? hc; simp at h2; exact h2 this
        unfold Sign at hS
        unfold Plain
        omega
      replace hD : A'.depth ≤ dp + 1 := hD
      replace hU : A'.units ≤ un + 8 := hU
      clear F2 N2
      show wpAny _ _ _ _ _ _
      k_steps
      · have e : (l.map fun c => ((wid c : Nat) : Int)).getD i 0 = (wid c : Nat) := by simp [List.getD_eq_getElem?_getD, hc]
        rw [e]
      · exact ⟨_, _, rfl, by assumption⟩
    · intro a K s₅ ps' F5 N5 ht' hG hos hdr hLK hPK hNK X5
      obtain ⟨h5, g5, d5, tk5, os5⟩ := s₅
      replace hos : os5 = s.os := hos
      replace hdr : d5 = s.drawn := hdr
      subst hos hdr
      clear F2 N2
      show wpAny _ _ _ _ _ _
      k_steps
      refine Halt.out ?_
      have hfit : PyProof.Rows.SumFits (l.map fun c => ((wid c : Nat) : Int)) := PyProof.Rows.sumFits_small (fun x hx => by
        obtain ⟨c, _, rfl⟩ := List.mem_map.mp hx
        have := wid_le c
        omega) (by rw [List.length_map]; omega)
      refine' sum_gen ?F ?N hLK hPK hNK X5 ?fit ?_
      case F => exact F5
      case N => exact N5
      case fit =>
        intro j hj
        have h3 := hfit j (by rw [List.length_map]; exact hj)
        rw [PyProof.Rows.preSum_getD]; exact h3
      intro t' h6 gs6 tk6 F6 N6 hG6
      clear F5 N5 X5
      refine RetP.introG [(203, tabObj ps')] F6 N6 (by walk_at "news in") ⟨ps', rfl, ht', fun G => hG6 (hG G), ?_⟩
      have e1 : preSum (fun i => (l.map fun c => ((wid c : Nat) : Int)).getD i 0) l.length = ((tot l false : Nat) : Int) := by
        rw [PyProof.Rows.preSum_getD, tot_plain l false h1 h2, ← sum_cast, List.take_of_length_le (by rw [List.length_map]; exact Nat.le_refl _)]
      rw [e1]
      exact ⟨_, rfl⟩
  all_goals
    refine Halt.out ?_
    rename Fr _ _ _ _ => F2
    rename News _ _ _ _ => N2
    rename Obj.SetObjOf _ _ _ (0 + 1 + 1) => HS
    refine While_on (ClJ w l t g L s ps oc) (l.length + 1) ⟨_, _, _, _, _, _, _, _, _, _, _, 0, 0, none, false, rfl, fr_kn [(Str.ofString "index", _), (Str.ofString "character_count", _), (Str.ofString "last_measured_character", _), (Str.ofString "total_width", _),
        (Str.ofString "SPECIAL", _), (Str.ofString "cell_table", _), (Str.ofString "text", _)] F2 (by walk_at "knows"), cb_drop N2 (by walk_at "news in"), HS, by omega, by omega, by omega, (fun _ _ h => nomatch h), fun _ => rfl, by simp⟩ ?_
    clear F2 N2 HS
    rintro n s₁ ⟨h, tk, m, x, dx, d, t4, u1, u2, u4, o, i, tw, lm, cw, rfl, F, N, HS, b2, b3, rfl, hlm, hl0, ht⟩
    by_cases h0 : i < l.length
    · obtain ⟨c, hc⟩ : ∃ c, l[i]? = some c := ⟨_, List.getElem?_eq_getElem h0⟩
      have hld : l.drop i = c :: l.drop (i + 1) := by
        rw [List.drop_eq_getElem_cons h0]
        congr 1
        rw [List.getElem?_eq_getElem h0] at hc
        exact Option.some.inj hc
      have hS : Sign c := hl _ (List.mem_of_getElem? hc)
      rw [hld] at ht
      by_cases hb : (c == 8205 || c == 65039) = true
      · have hcc : c = 8205 ∨ c = 65039 := by simpa using hb
        rcases hcc with rfl | rfl
        · rw [tot_skip, List.drop_drop] at ht
          show wpAny _ _ _ _ _ _
          k_fold
          k_steps
          exact cl_close (i + 2) tw lm cw (by assumption) (by assumption) (by walk_at "knows") HS rfl rfl rfl (by omega) (by omega) (by omega) hlm hl0 ht
        · rw [tot_vs] at ht
          rcases lm with _ | ⟨x₁, ux⟩
          · have hcw := hl0 rfl
            subst hcw
            dsimp only [lmV] at F
            show wpAny _ _ _ _ _ _
            k_fold
            k_steps
            exact cl_close (i + 1) tw none false (by assumption) (by assumption) (by walk_at "knows") HS rfl rfl rfl (by omega) (by omega) (by omega) (fun _ _ h => nomatch h) (fun _ => rfl) (by simpa using ht)
          · obtain ⟨hx1, hx2, hx3⟩ := hlm _ _ rfl
            dsimp only [lmV] at F
            show wpAny _ _ _ _ _ _
            rcases hb2 : n2w x₁ with _ | _
            · rw [hb2] at hx3
              subst hx3
              k_fold
              k_steps
              exact cl_close (i + 1) tw none false (by assumption) (by assumption) (by walk_at "knows") HS rfl rfl (by first | rfl | simp | omega) (by omega) (by omega) (by omega) (fun _ _ h => nomatch h) (fun _ => rfl) (by simpa using ht)
            · rw [hb2] at hx3
              subst hx3
              k_fold
              k_steps
              exact cl_close (i + 1) (tw + 1) none false (by assumption) (by assumption) (by walk_at "knows") HS rfl rfl (by first | rfl | simp | omega) (by omega) (by omega) (by omega) (fun _ _ h => nomatch h) (fun _ => rfl) (by simp at ht; omega)
      · replace hb : (c == 8205 || c == 65039) = false := by simpa using hb
        have hP : Plain c := by
          simp only [Bool.or_eq_false_iff, beq_eq_false_iff_ne] at hb
          unfold Sign at hS
          unfold Plain
          omega
        have hb' : c ≠ 8205 ∧ c ≠ 65039 := by simpa using hb
        show wpAny _ _ _ _ _ _
        k_fold
        k_steps
        · have hw : wid c ≠ 0 := by omega
          rw [tot_wide hb'.1 hb'.2 hw] at ht
          exact cl_close (i + 1) (tw + wid c) (some (c, _)) (n2w c) (by assumption) (by assumption) (by walk_at "knows") HS rfl rfl (by omega) (by omega) (by have := wid_le c; omega) (by omega) (fun _ _ h => by cases h; exact ⟨hP, hw, rfl⟩) (fun h => nomatch h) (by omega)
        · have hw : wid c = 0 := by omega
          rw [tot_zero hb'.1 hb'.2 hw] at ht
          exact cl_close (i + 1) tw lm cw (by assumption) (by assumption) (by walk_at "knows") HS rfl rfl rfl (by omega) (by omega) (by omega) hlm hl0 ht
    · have hd0 : l.drop i = [] := List.drop_eq_nil_of_le (by omega)
      rw [hd0] at ht
      replace ht : tw = tot l false := ht
      subst ht
      show wpAny _ _ _ _ _ _
      k_fold
      k_steps
      exact RetP.introG [(203, tabObj ps)] (by assumption) (by assumption) (by walk_at "news in") ⟨ps, rfl, hps, id, _, rfl⟩
end Mine
namespace Mine
open PySem PySem.Spec PySem.Calls PyProof.Rows PySem.W
local macro_rules | `(tactic| walk_at "news in") => `(tactic| first | (with_reducible exact sub_self) | (with_reducible exact sub_nil) | ((with_reducible refine sub_cons ?a1 ?a2); (case a1 => k_mem); (case a2 => walk_at "news in")) | ((with_reducible refine sub_app ?a1 ?a2); (case a1 => walk_at "news in"); (case a2 => walk_at "news in")) | ((with_reducible refine sub_skip ?_); walk_at "news in") | ((with_reducible refine sub_appL ?_); walk_at "news in") | ((with_reducible refine sub_appR ?_); walk_at "news in"))
local macro_rules | `(tactic| k_room) => `(tactic| ktr_room)
local macro_rules | `(tactic| walk_at "my room") => `(tactic| ((try dsimp only); first | ktr_room | omega))
local macro_rules | `(tactic| walk_at "my units") => `(tactic| ((try dsimp only); first | ktr_units | omega))
local macro_rules | `(tactic| walk_at "my given") => `(tactic| ((case hh => first | exact rfl | assumption); (case F => k_asm); (case X => k_asm); (case N => k_asm); (case T => k_asm); (case hs => walk_at "news in"); (case hd => walk_at "my room"); (case hu => walk_at "my units")))
local macro_rules | `(tactic| walk_at "getMethod type:tuple") => `(tactic| (k_here; refine' method_type ?F ?X ?m (by decide +kernel) ?e ?h ?_; (case F => k_asm); (case X => k_asm); (case m => exact meta_tuple'); (case e => k_dflt k_is); (case h => k_handed)))
local macro_rules | `(tactic| walk_at "ForPost") => `(tactic| dsimp only [ForPost])
local macro_rules | `(tactic| walk_at "WhilePost") => `(tactic| dsimp only [WhilePost])
local macro_rules | `(tactic| walk_at "knows") => `(tactic| first | exact kn_nil | (refine kn_cons ?a1 ?a2; (case a1 => first | with_reducible assumption | exact rfl | with_unfolding_all exact rfl); (case a2 => walk_at "knows")))
local macro_rules | `(tactic| walk_at "WhileEnd") => `(tactic| dsimp only [WhileEnd])
local macro_rules | `(tactic| walk_at "call ref") => `(tactic| (k_here; (with_reducible show wpAny _ _ (call (Value.ref 163) _) _ _ _); k_dflt (refine' load_use ?hh ?F ?X ?N ?T ?hd ?hu ?_; (case hh => first | exact rfl | assumption); (case F => k_asm); (case X => k_asm); (case N => k_asm); (case T => k_asm); (case hd => walk_at "my room"); (case hu => walk_at "my units"); k_whole; intro x' dx' t' h' tk' F' N'; (try k_sweep))))
local macro_rules | `(tactic| walk_at "getAttr ref") => `(tactic| (k_here; k_dflt (first
  | ((with_reducible show wpAny _ _ (getAttr _ (Str.ofString "widths") _) _ _ _); refine' widths_ct ?hh ?F ?X ?N ?m1 ?m2 ?T ?hd ?hu ?h9 ?_; (case hh => first | exact rfl | assumption); (case F => k_asm); (case X => k_asm); (case N => k_asm); (case m1 => k_mem); (case m2 => k_mem); (case T => k_asm); (case hd => walk_at "my room"); (case hu => walk_at "my units"); (case h9 => exact rfl); k_whole; intro h' tk' F' N'; (try k_sweep))
  | ((with_reducible show wpAny _ _ (getAttr _ (Str.ofString "narrow_to_wide") _) _ _ _); refine' narrow_ct ?hh ?F ?X ?N ?m1 ?m2 ?T ?hd ?hu ?h9 ?_; (case hh => first | exact rfl | assumption); (case F => k_asm); (case X => k_asm); (case N => k_asm); (case m1 => k_mem); (case m2 => k_mem); (case T => k_asm); (case hd => walk_at "my room"); (case hu => walk_at "my units"); (case h9 => exact rfl); k_whole; intro h' tk' F' N'; (try k_sweep)))))
local macro_rules | `(tactic| walk_at "exec For Name Name cons nil") => `(tactic| refine halt ?_)
local macro_rules | `(tactic| walk_at "exec For Name Call cons nil") => `(tactic| refine halt ?_)
local macro_rules | `(tactic| walk_at "exec For Tuple Name cons nil") => `(tactic| refine halt ?_)
local macro_rules | `(tactic| walk_at "exec For Tuple Name cons cons") => `(tactic| refine halt ?_)
local macro_rules | `(tactic| walk_at "exec While Compare cons nil") => `(tactic| refine halt ?_)
local macro_rules | `(tactic| walk_at "exec While Constant cons nil") => `(tactic| refine halt ?_)
local macro_rules | `(tactic| walk_at "call builtin:len") => `(tactic| (k_here; (with_reducible show wpAny _ _ (call (Value.builtin "len") [Value.str ⟨List.toArray _⟩ _]) _ _ _); k_dflt (refine len_sg (by omega) ?_; intro u' tk')))
local macro_rules | `(tactic| walk_at "subscriptTail") => `(tactic| (k_here; (with_reducible show wpAny _ _ (subscriptTail _ _ (Value.str ⟨List.toArray _⟩ _) (Value.int (Nat.cast _) _)) _ _ _); k_dflt (refine item_sg (by omega) (by assumption) ?_; intro u' tk')))
local macro_rules | `(tactic| walk_at "subscriptTail Name Name str int") => `(tactic| (k_here; (with_reducible show wpAny _ _ (subscriptTail _ _ (Value.str ⟨List.toArray _⟩ _) (Value.int (Nat.cast _) _)) _ _ _); k_dflt (refine item_sg (by omega) (by assumption) ?_; intro u' tk')))
local macro_rules | `(tactic| walk_at "subscriptTail") => `(tactic| (k_here; (with_reducible show wpAny _ _ (subscriptTail _ _ (Value.ref _) (Value.int _ _)) _ _ _); k_dflt (refine' item_last ?N ?m ?_ ?s; (case N => k_asm); (case m => k_mem); (case s => with_unfolding_all rfl); k_whole)))
local macro_rules | `(tactic| walk_at "subscriptTail Name UnaryOp ref int") => `(tactic| (k_here; (with_reducible show wpAny _ _ (subscriptTail _ _ (Value.ref _) (Value.int _ _)) _ _ _); k_dflt (refine' item_last ?N ?m ?_ ?s; (case N => k_asm); (case m => k_mem); (case s => with_unfolding_all rfl); k_whole)))
local macro_rules | `(tactic| walk_at "subscriptTail Name Constant ref int") => `(tactic| (k_here; (with_reducible show wpAny _ _ (subscriptTail _ _ (Value.ref _) (Value.int _ _)) _ _ _); k_dflt (refine' item_last ?N ?m ?_ ?s; (case N => k_asm); (case m => k_mem); (case s => with_unfolding_all rfl); k_whole)))
local macro_rules | `(tactic| walk_at "my upd") => `(tactic| first | exact Upd.head (by assumption) | (refine' Upd.tail ?a ?b; (case a => k_ne); (case b => walk_at "my upd")))
local macro_rules | `(tactic| walk_at "setItem ref int") => `(tactic| (k_here; (with_reducible show wpAny _ _ (PySem.setItem (Value.ref _) (Value.int _ _) (Value.ref _)) _ _ _); k_dflt (refine' set_last ?F ?N ?U ?_; (case F => k_asm); (case N => k_asm); (case U => walk_at "my upd"); k_whole); intro h' F' N'; (try k_sweep)))
local macro_rules | `(tactic| walk_at "setItem ref int ref") => `(tactic| (k_here; (with_reducible show wpAny _ _ (PySem.setItem (Value.ref _) (Value.int _ _) (Value.ref _)) _ _ _); k_dflt (refine' set_last ?F ?N ?U ?_; (case F => k_asm); (case N => k_asm); (case U => walk_at "my upd"); k_whole); intro h' F' N'; (try k_sweep)))
local macro_rules | `(tactic| walk_at "call builtin:list.append") => `(tactic| (k_here; (with_reducible show wpAny _ _ (call (Value.builtin _) [Value.ref _, _]) _ _ _); k_dflt (refine' append_l ?F ?N ?U ?_ ?z; (case F => k_asm); (case N => k_asm); (case U => walk_at "my upd"); (case z => first | assumption | (simp; done) | (simp; omega)); k_whole); intro h' F' N'; (try k_sweep)))
local macro_rules | `(tactic| walk_at "truthy ref") => `(tactic| (k_here; (with_reducible show wpAny _ _ (truthy (Value.ref _)) _ _ _); k_dflt (refine' truthy_snoc ?N ?m ?z ?_; (case N => k_asm); (case m => k_mem); (case z => first | assumption | omega); k_whole; intro tk')))
local macro_rules | `(tactic| walk_at "truthy str") => `(tactic| (k_here; (with_reducible show wpAny _ _ (truthy (Value.str ⟨#[_]⟩ _)) _ _ _); k_dflt (refine truthy_sign ?_; intro tk')))
local macro_rules | `(tactic| walk_at "compareOp In str ref") => `(tactic| (k_here; (with_reducible show wpAny _ _ (compareOp CmpOp.In _ (Value.ref 155)) _ _ _); k_dflt (refine' in_narrow ?F ?X ?hx ?hb ?_; (case F => k_asm); (case X => k_asm); (case hx => assumption); (case hb => assumption); k_whole)))
local macro_rules | `(tactic| walk_at "compareOp In str ref") => `(tactic| (k_here; k_dflt (refine' in_special ?N ?m ?HS ?hb ?_; (case HS => assumption); (case hb => first | assumption | exact rfl); (case N => k_asm); (case m => k_mem); k_whole; intro tk')))
local macro_rules | `(tactic| walk_at "call ref") => `(tactic| (k_here; (with_reducible show wpAny _ _ (call (Value.ref 185) _) _ _ _); k_dflt (refine' size_use (w := _) ?hc ?hh ?F ?X ?N ?T ?hd ?hu ?_; (case hc => assumption); (case hh => first | exact rfl | assumption); (case F => k_asm); (case X => k_asm); (case N => k_asm); (case T => k_asm); (case hd => walk_at "my room"); (case hu => walk_at "my units"); k_whole; intro u' h' tk' F' N'; (try k_sweep))))
local macro_rules | `(tactic| walk_at "loadName") => `(tactic| (k_here; k_dflt (refine loadX_L (by k_asm) (by rfl) ?_)))
local macro_rules | `(tactic| walk_at "eval Name") => `(tactic| (k_here; (with_reducible show wpAny _ _ (eval (Expr.Name _ _) (genEnv _ _ _ _ _ _)) _ _ _); k_dflt (first
  | refine gen_local (by k_asm) (by assumption) ?_
  | refine gen_free (by k_asm) (by rfl) (by k_mem) (by assumption) ?_
  | refine gen_global (by k_asm) (by k_asm) (by k_asm) (by k_is) ?_)))
local macro_rules | `(tactic| walk_at "call ref") => `(tactic| (k_here; (with_reducible show wpAny _ _ (call (Value.ref 185) _) _ _ _); k_dflt (refine' size_use2 (w := _) ?hc ?hh ?F ?X ?N ?T ?hd ?hu ?_; (case hc => assumption); (case hh => first | exact rfl | assumption); (case F => k_asm); (case X => k_asm); (case N => k_asm); (case T => k_asm); (case hd => walk_at "my room"); (case hu => walk_at "my units"); k_whole; intro u' h' tk' k' F' N'; (try k_sweep))))
local macro_rules | `(tactic| walk_at "compareOp NotIn str str") => `(tactic| (k_here; k_dflt (first | (refine notin_sg (c := 8205) (by decide) ?_; k_whole) | (refine notin_sg (c := 65039) (by decide) ?_; k_whole))))
local macro_rules | `(tactic| walk_at "call ref") => `(tactic| (k_here; (with_reducible show wpAny _ _ (call (Value.ref 177) _) _ _ _); k_dflt (refine' single_use (w := _) ?hc ?hh ?F ?X ?N ?T ?hd ?hu ?_; (case hc => assumption); (case hh => first | exact rfl | assumption); (case F => k_asm); (case X => k_asm); (case N => k_asm); (case T => k_asm); (case hd => walk_at "my room"); (case hu => walk_at "my units"); k_whole; intro h' tk' F' N'; (try k_sweep))))
theorem fill7 : ∀ (w : World) (h : Heap), (hd.heap_39 w.params).In h → PySem.Challenge.rw_fe0297_01.row.prog = PySem.Challenge.rw_fe0297_01.row.prog → True := by
  k_fill
  intros
  trivial

/-- what the measuring of a text hands back: the table of codes may have grown -/
abbrev CellOut (l : List Nat) : Out4 := fun gs nw gs' r => ∃ ps', nw = [(203, tabObj ps')] ∧ TriplesOk ps'.toList ∧ (AllBare gs → AllBare gs') ∧ ∃ u, r = .int (tot l false : Nat) u
theorem cell_use {prog : Program} {w : World} {K : Frag} {f : Addr} {vs : List Value} {D U : Nat} {ps : Array Value} {l : List Nat} {A : Around} {E : Value → Shared → Prop} {s : Shared} {h₀ : Heap} {L : Addr} {m mg mb : Str → Option Value} {p : Program} {loose : List Str} {news : List (Addr × Obj)} {Q : Value → Shared → Prop}
    (G : RawB prog w K f [(203, tabObj ps)] vs D U (CellOut l)) (BMh : BM mg h₀) (hh : A.handled = none) (F : Fr h₀ L s.heap m) (X : K.In h₀) (N : News h₀ L s.heap news) (T : TopRead p loose mg mb h₀) (hm : (203, tabObj ps) ∈ news)
    (hd : A.depth + D < recursionLimit) (hu : A.units + U < cLine) (rest : List (Addr × Obj)) (hrest : ∀ q ∈ rest, q ∈ news ∧ q.1 ≠ 203)
    (h : ∀ ps' u h' tk' gs', Fr h₀ L h' m → News h₀ L h' ((203, tabObj ps') :: rest) → TriplesOk ps'.toList → (AllBare s.gens → AllBare gs') → Q (.int (tot l false : Nat) u) { s with heap := h', toks := tk', gens := gs' }) :
    wpAny (model prog w) A (call (.ref f) vs) Q E s := by
  refine RawB.use G BMh hh F X N T (List.forall_mem_cons.mpr ⟨hm, fun _ h => nomatch h⟩) hd hu ?_
  rintro r nw h' tk' gs' F' N' k ⟨ps', rfl, ht, hg, u, rfl⟩
  refine h ps' u h' tk' gs' F' (fun q hq => ?_) ht hg
  rcases List.mem_cons.mp hq with rfl | hq
  · exact N' _ (.head _)
  · obtain ⟨h1, h2⟩ := hrest q hq
    exact ⟨(k q h1 (fun hm => h2 (List.mem_singleton.mp hm))).1, (N q h1).2⟩
theorem cached_gives (w : World) {l : List Nat} (hl : ∀ c ∈ l, Sign c) (hn : l.length < 1000) {t t' : Tok} {ps : Array Value} (hps : TriplesOk ps.toList) : RawB PySem.Challenge.rw_fe0297_01.row.prog w (hd.heap_39 w.params) 193 [(203, tabObj ps)] [.str ⟨l.toArray⟩ t, .str (Str.ofString "auto") t'] 32 110 (CellOut l) := by
  refine rawB_of [(Str.ofString "text", .str ⟨l.toArray⟩ t), (Str.ofString "unicode_version", .str (Str.ofString "auto") t')] (by k_is) (by k_is) (fun s X => binds_K X rfl (by k_is) rfl rfl rfl) (locs rfl) (by decide) rfl rfl rfl ?_
  intro dp un gd outer g L mg mb p loose s F X N T BMh hd hu
  replace F : Fr g L s.heap (fun y => List.lookup y [(Str.ofString "unicode_version", .str (Str.ofString "auto") t'), (Str.ofString "text", .str ⟨l.toArray⟩ t)]) := F
  show wpAny _ _ _ _ _ _
  k_fold
  k_steps
  k_dflt (refine' cell_use (cell_gives w hl hn hps) BMh rfl ?F ?X ?N ?T (.head _) ?hd ?hu [] (fun _ h => nomatch h) ?_)
  case F => k_asm
  case X => k_asm
  case N => k_asm
  case T => k_asm
  case hd => walk_at "my room"
  case hu => walk_at "my units"
  intro ps' u h' tk' gs' F' N' ht hg
  k_steps
  exact RetP.introG [(203, tabObj ps')] F' N' (by walk_at "news in") ⟨ps', rfl, ht, hg, _, rfl⟩
theorem celllen_gives (w : World) {l : List Nat} (hl : ∀ c ∈ l, Sign c) (hn : l.length < 500) {t : Tok} {ps : Array Value} (hps : TriplesOk ps.toList) : RawB PySem.Challenge.rw_fe0297_01.row.prog w (hd.heap_39 w.params) 201 [(203, tabObj ps)] [.str ⟨l.toArray⟩ t] 34 120 (CellOut l) := by
  refine rawB_of [(Str.ofString "text", .str ⟨l.toArray⟩ t), (Str.ofString "unicode_version", .str (Str.ofString "auto") _)] (by k_is) (by k_is) (fun s X => binds_K X rfl (by k_is) rfl rfl rfl) (locs rfl) (by decide) rfl rfl rfl ?_
  intro dp un gd outer g L mg mb p loose s F X N T BMh hd hu
  replace F : Fr g L s.heap (fun y => List.lookup y [(Str.ofString "unicode_version", .str (Str.ofString "auto") _), (Str.ofString "text", .str ⟨l.toArray⟩ t)]) := F
  show wpAny _ _ _ _ _ _
  k_fold
  k_steps
  k_dflt (refine' cell_use (cached_gives w hl (by omega) hps) BMh rfl ?F ?X ?N ?T (.head _) ?hd ?hu [] (fun _ h => nomatch h) ?_)
  case F => k_asm
  case X => k_asm
  case N => k_asm
  case T => k_asm
  case hd => walk_at "my room"
  case hu => walk_at "my units"
  intro ps' u h' tk' gs' F' N' ht hg
  k_steps
  exact RetP.introG [(203, tabObj ps')] F' N' (by walk_at "news in") ⟨ps', rfl, ht, hg, _, rfl⟩
end Mine
namespace Mine
open PySem PySem.Spec PySem.Calls PyProof.Rows PySem.W
local macro_rules | `(tactic| walk_at "news in") => `(tactic| first | (with_reducible exact sub_self) | (with_reducible exact sub_nil) | ((with_reducible refine sub_cons ?a1 ?a2); (case a1 => k_mem); (case a2 => walk_at "news in")) | ((with_reducible refine sub_app ?a1 ?a2); (case a1 => walk_at "news in"); (case a2 => walk_at "news in")) | ((with_reducible refine sub_skip ?_); walk_at "news in") | ((with_reducible refine sub_appL ?_); walk_at "news in") | ((with_reducible refine sub_appR ?_); walk_at "news in"))
local macro_rules | `(tactic| k_room) => `(tactic| ktr_room)
local macro_rules | `(tactic| walk_at "my room") => `(tactic| ((try dsimp only); first | ktr_room | omega))
local macro_rules | `(tactic| walk_at "my units") => `(tactic| ((try dsimp only); first | ktr_units | omega))
local macro_rules | `(tactic| walk_at "my given") => `(tactic| ((case hh => first | exact rfl | assumption); (case F => k_asm); (case X => k_asm); (case N => k_asm); (case T => k_asm); (case hs => walk_at "news in"); (case hd => walk_at "my room"); (case hu => walk_at "my units")))
local macro_rules | `(tactic| walk_at "getMethod type:tuple") => `(tactic| (k_here; refine' method_type ?F ?X ?m (by decide +kernel) ?e ?h ?_; (case F => k_asm); (case X => k_asm); (case m => exact meta_tuple'); (case e => k_dflt k_is); (case h => k_handed)))
local macro_rules | `(tactic| walk_at "ForPost") => `(tactic| dsimp only [ForPost])
local macro_rules | `(tactic| walk_at "WhilePost") => `(tactic| dsimp only [WhilePost])
local macro_rules | `(tactic| walk_at "knows") => `(tactic| first | exact kn_nil | (refine kn_cons ?a1 ?a2; (case a1 => first | with_reducible assumption | exact rfl | with_unfolding_all exact rfl); (case a2 => walk_at "knows")))
local macro_rules | `(tactic| walk_at "WhileEnd") => `(tactic| dsimp only [WhileEnd])
local macro_rules | `(tactic| walk_at "call ref") => `(tactic| (k_here; (with_reducible show wpAny _ _ (call (Value.ref 163) _) _ _ _); k_dflt (refine' load_use ?hh ?F ?X ?N ?T ?hd ?hu ?_; (case hh => first | exact rfl | assumption); (case F => k_asm); (case X => k_asm); (case N => k_asm); (case T => k_asm); (case hd => walk_at "my room"); (case hu => walk_at "my units"); k_whole; intro x' dx' t' h' tk' F' N'; (try k_sweep))))
local macro_rules | `(tactic| walk_at "getAttr ref") => `(tactic| (k_here; k_dflt (first
  | ((with_reducible show wpAny _ _ (getAttr _ (Str.ofString "widths") _) _ _ _); refine' widths_ct ?hh ?F ?X ?N ?m1 ?m2 ?T ?hd ?hu ?h9 ?_; (case hh => first | exact rfl | assumption); (case F => k_asm); (case X => k_asm); (case N => k_asm); (case m1 => k_mem); (case m2 => k_mem); (case T => k_asm); (case hd => walk_at "my room"); (case hu => walk_at "my units"); (case h9 => exact rfl); k_whole; intro h' tk' F' N'; (try k_sweep))
  | ((with_reducible show wpAny _ _ (getAttr _ (Str.ofString "narrow_to_wide") _) _ _ _); refine' narrow_ct ?hh ?F ?X ?N ?m1 ?m2 ?T ?hd ?hu ?h9 ?_; (case hh => first | exact rfl | assumption); (case F => k_asm); (case X => k_asm); (case N => k_asm); (case m1 => k_mem); (case m2 => k_mem); (case T => k_asm); (case hd => walk_at "my room"); (case hu => walk_at "my units"); (case h9 => exact rfl); k_whole; intro h' tk' F' N'; (try k_sweep)))))
local macro_rules | `(tactic| walk_at "exec For Name Name cons nil") => `(tactic| refine halt ?_)
local macro_rules | `(tactic| walk_at "exec For Name Call cons nil") => `(tactic| refine halt ?_)
local macro_rules | `(tactic| walk_at "exec For Tuple Name cons nil") => `(tactic| refine halt ?_)
local macro_rules | `(tactic| walk_at "exec For Tuple Name cons cons") => `(tactic| refine halt ?_)
local macro_rules | `(tactic| walk_at "exec While Compare cons nil") => `(tactic| refine halt ?_)
local macro_rules | `(tactic| walk_at "exec While Constant cons nil") => `(tactic| refine halt ?_)
local macro_rules | `(tactic| walk_at "eval GeneratorExp") => `(tactic| refine halt ?_)
local macro_rules | `(tactic| walk_at "call builtin:sum") => `(tactic| refine halt ?_)
local macro_rules | `(tactic| walk_at "call builtin:len") => `(tactic| (k_here; (with_reducible show wpAny _ _ (call (Value.builtin "len") [Value.str ⟨List.toArray _⟩ _]) _ _ _); k_dflt (refine len_sg (by omega) ?_; intro u' tk')))
local macro_rules | `(tactic| walk_at "subscriptTail") => `(tactic| (k_here; (with_reducible show wpAny _ _ (subscriptTail _ _ (Value.str ⟨List.toArray _⟩ _) (Value.int (Nat.cast _) _)) _ _ _); k_dflt (refine item_sg (by omega) (by assumption) ?_; intro u' tk')))
local macro_rules | `(tactic| walk_at "subscriptTail Name Name str int") => `(tactic| (k_here; (with_reducible show wpAny _ _ (subscriptTail _ _ (Value.str ⟨List.toArray _⟩ _) (Value.int (Nat.cast _) _)) _ _ _); k_dflt (refine item_sg (by omega) (by assumption) ?_; intro u' tk')))
local macro_rules | `(tactic| walk_at "subscriptTail") => `(tactic| (k_here; (with_reducible show wpAny _ _ (subscriptTail _ _ (Value.ref _) (Value.int _ _)) _ _ _); k_dflt (refine' item_last ?N ?m ?_ ?s; (case N => k_asm); (case m => k_mem); (case s => with_unfolding_all rfl); k_whole)))
local macro_rules | `(tactic| walk_at "subscriptTail Name UnaryOp ref int") => `(tactic| (k_here; (with_reducible show wpAny _ _ (subscriptTail _ _ (Value.ref _) (Value.int _ _)) _ _ _); k_dflt (refine' item_last ?N ?m ?_ ?s; (case N => k_asm); (case m => k_mem); (case s => with_unfolding_all rfl); k_whole)))
local macro_rules | `(tactic| walk_at "subscriptTail Name Constant ref int") => `(tactic| (k_here; (with_reducible show wpAny _ _ (subscriptTail _ _ (Value.ref _) (Value.int _ _)) _ _ _); k_dflt (refine' item_last ?N ?m ?_ ?s; (case N => k_asm); (case m => k_mem); (case s => with_unfolding_all rfl); k_whole)))
local macro_rules | `(tactic| walk_at "my upd") => `(tactic| first | exact Upd.head (by assumption) | (refine' Upd.tail ?a ?b; (case a => k_ne); (case b => walk_at "my upd")))
local macro_rules | `(tactic| walk_at "setItem ref int") => `(tactic| (k_here; (with_reducible show wpAny _ _ (PySem.setItem (Value.ref _) (Value.int _ _) (Value.ref _)) _ _ _); k_dflt (refine' set_last ?F ?N ?U ?_; (case F => k_asm); (case N => k_asm); (case U => walk_at "my upd"); k_whole); intro h' F' N'; (try k_sweep)))
local macro_rules | `(tactic| walk_at "setItem ref int ref") => `(tactic| (k_here; (with_reducible show wpAny _ _ (PySem.setItem (Value.ref _) (Value.int _ _) (Value.ref _)) _ _ _); k_dflt (refine' set_last ?F ?N ?U ?_; (case F => k_asm); (case N => k_asm); (case U => walk_at "my upd"); k_whole); intro h' F' N'; (try k_sweep)))
local macro_rules | `(tactic| walk_at "call builtin:list.append") => `(tactic| (k_here; (with_reducible show wpAny _ _ (call (Value.builtin _) [Value.ref _, _]) _ _ _); k_dflt (refine' append_l ?F ?N ?U ?_ ?z; (case F => k_asm); (case N => k_asm); (case U => walk_at "my upd"); (case z => first | assumption | (simp; done) | (simp; omega)); k_whole); intro h' F' N'; (try k_sweep)))
local macro_rules | `(tactic| walk_at "truthy ref") => `(tactic| (k_here; (with_reducible show wpAny _ _ (truthy (Value.ref _)) _ _ _); k_dflt (refine' truthy_snoc ?N ?m ?z ?_; (case N => k_asm); (case m => k_mem); (case z => first | assumption | omega); k_whole; intro tk')))
local macro_rules | `(tactic| walk_at "truthy str") => `(tactic| (k_here; (with_reducible show wpAny _ _ (truthy (Value.str ⟨#[_]⟩ _)) _ _ _); k_dflt (refine truthy_sign ?_; intro tk')))
local macro_rules | `(tactic| walk_at "compareOp In str ref") => `(tactic| (k_here; (with_reducible show wpAny _ _ (compareOp CmpOp.In _ (Value.ref 155)) _ _ _); k_dflt (refine' in_narrow ?F ?X ?hx ?hb ?_; (case F => k_asm); (case X => k_asm); (case hx => assumption); (case hb => assumption); k_whole)))
local macro_rules | `(tactic| walk_at "compareOp In str ref") => `(tactic| (k_here; k_dflt (refine' in_special ?N ?m ?HS ?hb ?_; (case HS => assumption); (case hb => first | assumption | exact rfl); (case N => k_asm); (case m => k_mem); k_whole; intro tk')))
local macro_rules | `(tactic| walk_at "call ref") => `(tactic| (k_here; (with_reducible show wpAny _ _ (call (Value.ref 185) _) _ _ _); k_dflt (refine' size_use (w := _) ?hc ?hh ?F ?X ?N ?T ?hd ?hu ?_; (case hc => assumption); (case hh => first | exact rfl | assumption); (case F => k_asm); (case X => k_asm); (case N => k_asm); (case T => k_asm); (case hd => walk_at "my room"); (case hu => walk_at "my units"); k_whole; intro u' h' tk' F' N'; (try k_sweep))))
local macro_rules | `(tactic| walk_at "loadName") => `(tactic| (k_here; k_dflt (refine loadX_L (by k_asm) (by rfl) ?_)))
local macro_rules | `(tactic| walk_at "eval Name") => `(tactic| (k_here; (with_reducible show wpAny _ _ (eval (Expr.Name _ _) (genEnv _ _ _ _ _ _)) _ _ _); k_dflt (first
  | refine gen_local (by k_asm) (by assumption) ?_
  | refine gen_free (by k_asm) (by rfl) (by k_mem) (by assumption) ?_
  | refine gen_global (by k_asm) (by k_asm) (by k_asm) (by k_is) ?_)))
local macro_rules | `(tactic| walk_at "call ref") => `(tactic| (k_here; (with_reducible show wpAny _ _ (call (Value.ref 185) _) _ _ _); k_dflt (refine' size_use2 (w := _) ?hc ?hh ?F ?X ?N ?T ?hd ?hu ?_; (case hc => assumption); (case hh => first | exact rfl | assumption); (case F => k_asm); (case X => k_asm); (case N => k_asm); (case T => k_asm); (case hd => walk_at "my room"); (case hu => walk_at "my units"); k_whole; intro u' h' tk' k' F' N'; (try k_sweep))))
local macro_rules | `(tactic| walk_at "compareOp NotIn str str") => `(tactic| (k_here; k_dflt (first | (refine notin_sg (c := 8205) (by decide) ?_; k_whole) | (refine notin_sg (c := 65039) (by decide) ?_; k_whole))))
local macro_rules | `(tactic| walk_at "call ref") => `(tactic| (k_here; (with_reducible show wpAny _ _ (call (Value.ref 177) _) _ _ _); k_dflt (refine' single_use (w := _) ?hc ?hh ?F ?X ?N ?T ?hd ?hu ?_; (case hc => assumption); (case hh => first | exact rfl | assumption); (case F => k_asm); (case X => k_asm); (case N => k_asm); (case T => k_asm); (case hd => walk_at "my room"); (case hu => walk_at "my units"); k_whole; intro h' tk' F' N'; (try k_sweep))))
local macro_rules | `(tactic| walk_at "subscriptTail Name Slice str ref") => `(tactic| (k_here; (with_reducible show wpAny _ _ (subscriptTail _ (Expr.Slice none (some _) none _) (Value.str ⟨List.toArray _⟩ _) _) _ _ _); (with_reducible rename Fr _ _ _ _ => F'); (with_reducible rename News _ _ _ _ => N'); k_dflt (refine' cut_to (s := ⟨_, _, _, _, _⟩) F' N' ?z ?j ?_ ?s ?t; (case s => with_unfolding_all rfl); (case t => intro _; with_unfolding_all rfl); (case z => omega); (case j => first | assumption | omega)); intro _ _ _ _ _; (try k_sweep)))
local macro_rules | `(tactic| walk_at "subscriptTail Name Slice str ref") => `(tactic| (k_here; (with_reducible show wpAny _ _ (subscriptTail _ (Expr.Slice (some _) none none _) (Value.str ⟨List.toArray _⟩ _) _) _ _ _); (with_reducible rename Fr _ _ _ _ => F'); (with_reducible rename News _ _ _ _ => N'); k_dflt (refine' cut_from (s := ⟨_, _, _, _, _⟩) F' N' ?z ?j ?_ ?s ?t; (case s => with_unfolding_all rfl); (case t => intro _; with_unfolding_all rfl); (case z => omega); (case j => first | assumption | omega)); intro _ _ _ _ _; (try k_sweep)))
local macro_rules | `(tactic| walk_at "subscriptTail Name Slice str ref") => `(tactic| (k_here; (with_reducible show wpAny _ _ (subscriptTail _ (Expr.Slice (some _) (some _) none _) (Value.str ⟨List.toArray _⟩ _) _) _ _ _); (with_reducible rename Fr _ _ _ _ => F'); (with_reducible rename News _ _ _ _ => N'); k_dflt (refine' cut_mid (s := ⟨_, _, _, _, _⟩) F' N' ?z ?i ?j ?_ ?s ?t; (case s => with_unfolding_all rfl); (case t => intro _; with_unfolding_all rfl); (case z => omega); (case i => first | assumption | omega); (case j => first | assumption | omega)); intro _ _ _ _ _; (try k_sweep)))
local macro_rules | `(tactic| walk_at "subscriptTail Name Slice ref ref") => `(tactic| (k_here; (with_reducible show wpAny _ _ (subscriptTail _ (Expr.Slice none (some _) none _) (Value.ref _) _) _ _ _); (with_reducible rename Fr _ _ _ _ => F'); (with_reducible rename News _ _ _ _ => N'); k_dflt (refine' cut_list (s := ⟨_, _, _, _, _⟩) F' N' ?m ?z ?j ?_ ?s ?t; (case m => k_mem); (case s => with_unfolding_all rfl); (case t => intro _; with_unfolding_all rfl); (case z => first | assumption | omega); (case j => first | assumption | omega)); intro D' h' F' N' l1; (try k_lt l1); (try k_sweep)))
local macro_rules | `(tactic| walk_at "call builtin:len") => `(tactic| (k_here; (with_reducible show wpAny _ _ (call (Value.builtin "len") [Value.ref _]) _ _ _); k_dflt (refine' len_l ?N ?m ?z ?_; (case N => k_asm); (case m => k_mem); (case z => first | assumption | omega); k_whole); intro u' tk'))
local macro_rules | `(tactic| walk_at "binaryOp FloorDiv int int") => `(tactic| (k_here; k_dflt (refine' fdiv_nat ?a ?b ?_; (case a => omega); (case b => omega); k_whole); intro u' tk'))
local macro_rules | `(tactic| walk_at "subscriptTail Name Name ref int") => `(tactic| (k_here; (with_reducible show wpAny _ _ (subscriptTail _ _ (Value.ref _) (Value.int (Nat.cast _) _)) _ _ _); k_dflt (refine' item_nth ?N ?m ?i ?x ?_ ?s; (case N => k_asm); (case m => k_mem); (case i => omega); (case x => assumption); (case s => with_unfolding_all rfl); k_whole)))
local macro_rules | `(tactic| walk_at "subscriptTail Name BinOp ref int") => `(tactic| (k_here; (with_reducible show wpAny _ _ (subscriptTail _ _ (Value.ref _) (Value.int _ _)) _ _ _); k_dflt (refine' item_pred ?N ?m ?i ?x ?_ ?s; (case N => k_asm); (case m => k_mem); (case i => omega); (case x => assumption); (case s => with_unfolding_all rfl); k_whole)))
local macro_rules | `(tactic| walk_at "subscriptTail Subscript Name Name Constant ref int") => `(tactic| (k_here; (with_reducible show wpAny _ _ (subscriptTail _ _ (Value.ref _) (Value.int _ _)) _ _ _); k_dflt (refine' item_tup ?N ?m ?lo ?hi ?hj ?hx ?_ ?s; (case N => k_asm); (case m => k_mem); (case lo => decide); (case hi => decide); (case hj => exact rfl); (case hx => exact rfl); (case s => with_unfolding_all rfl); k_whole)))
local macro_rules | `(tactic| walk_at "binaryOp Add str str") => `(tactic| (k_here; k_dflt (first
  | ((with_reducible show wpAny _ _ (binaryOp _ (Value.str ⟨List.toArray _⟩ _) (Value.str (Str.ofString _) _)) _ _ _); refine add_sg (b := [32]) (by decide) (by simp; omega) ?_; intro _ _)
  | ((with_reducible show wpAny _ _ (binaryOp _ (Value.str (Str.ofString _) _) (Value.str ⟨List.toArray _⟩ _)) _ _ _); refine add_gs (a := [32]) (by decide) (by simp; omega) ?_; intro _ _))))
theorem fill8 : ∀ (w : World) (h : Heap), (hd.heap_39 w.params).In h → PySem.Challenge.rw_fe0297_01.row.prog = PySem.Challenge.rw_fe0297_01.row.prog → True := by
  k_fill
  intros
  trivial

theorem go_length : ∀ (n : Nat) (i : Nat) (r : List Nat) (st sz : Nat) (cw : Bool), r.length ≤ n → (go i r st sz cw).length ≤ r.length + 1
  | 0, i, r, st, sz, cw, h => by
    obtain rfl : r = [] := List.eq_nil_of_length_eq_zero (by omega)
    exact Nat.le_refl _
  | n + 1, i, [], st, sz, cw, h => Nat.le_refl _
  | n + 1, i, c :: r, st, sz, cw, h => by
    by_cases h1 : c = 8205
    · subst h1
      cases r with
      | nil => rw [go_zwj_nil]; simp
      | cons d r =>
        rw [go_zwj]
        have := go_length n (i + 2) r st sz cw (by simp at h; omega)
        simp; omega
    · by_cases h2 : c = 65039
      · subst h2
        rw [go_vs]
        have := go_length n (i + 1) r st (sz + if cw then 1 else 0) false (by simp at h; omega)
        simp; omega
      · by_cases h3 : wid c = 0
        · rw [go_zero h1 h2 h3]
          have := go_length n (i + 1) r st sz cw (by simp at h; omega)
          simp; omega
        · rw [go_wide h1 h2 h3]
          have := go_length n (i + 1) r i (wid c) (n2w c) (by simp at h; omega)
          simp; omega
theorem pcs_length (l : List Nat) : (pcs l).length ≤ l.length := by
  cases l with
  | nil => exact Nat.le_refl _
  | cons c r => exact go_length _ 1 r 0 _ _ (Nat.le_refl _)
theorem tot_le : ∀ (n : Nat) (r : List Nat) (cw : Bool), r.length ≤ n → tot r cw ≤ 2 * r.length
  | 0, r, cw, h => by
    obtain rfl : r = [] := List.eq_nil_of_length_eq_zero (by omega)
    exact Nat.le_refl _
  | n + 1, [], cw, h => Nat.le_refl _
  | n + 1, c :: r, cw, h => by
    have hr : r.length ≤ n := by simp at h; omega
    by_cases h1 : c = 8205
    · subst h1
      cases r with
      | nil => rw [tot_zwj_nil]; simp
      | cons d r =>
        rw [tot_zwj]
        have := tot_le n r cw (by simp at hr; omega)
        simp; omega
    · by_cases h2 : c = 65039
      · subst h2
        rw [tot_vs]
        have := tot_le n r false hr
        have h9 : (if cw = true then 1 else 0) ≤ 1 := by split <;> omega
        simp; omega
      · by_cases h3 : wid c = 0
        · rw [tot_zero h1 h2 h3]
          have := tot_le n r cw hr
          simp; omega
        · rw [tot_wide h1 h2 h3]
          have := tot_le n r (n2w c) hr
          have := wid_le c
          simp; omega
theorem total_le (l : List Nat) : total l ≤ 2 * l.length := by
  cases l with
  | nil => exact Nat.le_refl _
  | cons c r =>
    have := tot_le _ r (n2w c) (Nat.le_refl _)
    have := wid_le c
    show wid c + tot r (n2w c) ≤ _
    simp; omega
abbrev tup2 (a b : Value) (n : Nat) : Obj := { cls := .type "tuple", data := .seq [a, b].toArray n }
/-- split_graphemes, used -/
theorem gr_use {w : World} {A : Around} {E : Value → Shared → Prop} {s : Shared} {h₀ : Heap} {L : Addr} {m mg mb : Str → Option Value} {p : Program} {loose : List Str} {news : List (Addr × Obj)} {t t' : Tok} {l : List Nat} {Q : Value → Shared → Prop}
    (hl : ∀ c ∈ l, Sign c) (hn : l.length < 1000) (hh : A.handled = none) (F : Fr h₀ L s.heap m) (X : (hd.heap_39 w.params).In h₀) (N : News h₀ L s.heap news) (T : TopRead p loose mg mb h₀) (hD : A.depth + 30 < recursionLimit) (hU : A.units + 100 < cLine)
    (h : ∀ T sl vs k kn u tl h' tk, Fr h₀ L h' m → News h₀ L h' ((T, tup2 (.ref sl) (.int (total l : Nat) u) kn) :: (sl, listOf vs.toArray k) :: (news ++ tl)) → DatAll tl vs ((pcs l).map sdat) → vs.length < 2 ^ 20 → (∀ x ∈ tl, ∀ q ∈ news, x.1 ≠ q.1) → (∀ q ∈ news, T ≠ q.1 ∧ sl ≠ q.1) → Q (.ref T) { s with heap := h', toks := tk }) :
    wpAny (model PySem.Challenge.rw_fe0297_01.row.prog w) A (call (.ref 216) [.str ⟨l.toArray⟩ t, .str (Str.ofString "auto") t']) Q E s := by
  refine Raw.use (gr_gives w hl hn) hh F X N T (fun _ h => nomatch h) hD hU ?_
  rintro r nw h' tk' gs' F' N' k ⟨e, tl, e2, T, sl, vs, k1, kn, u, e3, m1, m2, hd⟩
  subst e e2 e3
  rw [List.append_nil] at N' k
  refine h T sl vs k1 kn u tl h' tk' F' (fun q hq => ?_) hd (by rw [hd.length, List.length_map]; have := pcs_length l; omega) (fun x hx q hq => (k q hq (fun h => nomatch h)).2 x hx) (fun q hq => ⟨(k q hq (fun h => nomatch h)).2 _ m1, (k q hq (fun h => nomatch h)).2 _ m2⟩)
  rcases List.mem_cons.mp hq with rfl | hq
  · exact N' _ m1
  · rcases List.mem_cons.mp hq with rfl | hq
    · exact N' _ m2
    · rcases List.mem_append.mp hq with hq | hq
      · exact ⟨(k q hq (fun h => nomatch h)).1, (N q hq).2⟩
      · exact N' q hq
local macro_rules | `(tactic| walk_at "call ref") => `(tactic| (k_here; (with_reducible show wpAny _ _ (call (Value.ref 216) _) _ _ _); k_dflt (refine' gr_use (w := _) ?hc ?hn ?hh ?F ?X ?N ?T ?hd ?hu ?_; (case hc => assumption); (case hn => assumption); (case hh => first | exact rfl | assumption); (case F => k_asm); (case X => k_asm); (case N => k_asm); (case T => k_asm); (case hd => walk_at "my room"); (case hu => walk_at "my units"); k_whole; intro T' sl' vs' k' kn' u' tl' h' tk' F' N' hd' hz' ho' ho2'; (try simp only [List.cons_append, List.nil_append] at N'); (try k_sweep))))
theorem dat_at {tl : List (Addr × Obj)} : ∀ {vs : List Value} {sps : List Span} {i : Nat} {v : Value}, DatAll tl vs (sps.map sdat) → vs[i]? = some v →
    ∃ p a kn t1 t2 t3, sps[i]? = some p ∧ v = .ref a ∧ (a, tup3 (p.1 : Nat) (p.2.1 : Nat) (p.2.2 : Nat) t1 t2 t3 kn) ∈ tl
  | [], _, _, _, _, hv => by simp at hv
  | u :: vs, [], _, _, h, _ => nomatch h
  | u :: vs, p :: sps, i, v, h, hv => by
    cases h with
    | cons h1 h2 =>
      cases i with
      | zero =>
        obtain rfl : u = v := by simpa using hv
        unfold sdat at h1
        cases h1 with
        | tuple hm hd =>
          cases hd with
          | cons a1 hd =>
            cases hd with
            | cons a2 hd =>
              cases hd with
              | cons a3 hd =>
                cases hd
                cases a1
                cases a2
                cases a3
                exact ⟨p, _, _, _, _, _, rfl, rfl, hm⟩
      | succ i =>
        obtain ⟨q, a, kn, t1, t2, t3, e1, e2, e3⟩ := dat_at h2 (by simpa using hv)
        exact ⟨q, a, kn, t1, t2, t3, by simpa using e1, e2, e3⟩

/-- the loop of _split_text: what stands before a turn -/
def spMu (sps : List Span) (cell k : Nat) : Nat := if Psum sps k = cell then 0 else if Psum sps k < cell then sps.length - k + 1 else k + 1
def SpJ (l : List Nat) (cell : Nat) (t u : Tok) (g : Heap) (L : Addr) (s₀ : Shared) (ps : Array Value) (gs : Array GenState) (vs : List Value) (sl : Addr) (k1 : Nat) (tl : List (Addr × Obj)) (n : Nat) (s : Shared) : Prop :=
  ∃ (h : Heap) (tk : Nat) (m : Str → Option Value) (u0 u1 : Tok) (k : Nat), s = { s₀ with heap := h, toks := tk, gens := gs } ∧
    Fr g L h (know [(Str.ofString "offset", .int (k : Nat) u0), (Str.ofString "left_size", .int (Psum (pcs l) k : Nat) u1), (Str.ofString "spans", .ref sl), (Str.ofString "cell_position", .int (cell : Nat) u), (Str.ofString "text", .str ⟨l.toArray⟩ t)] m) ∧
    News g L h ((219, tabObj ps) :: (sl, listOf vs.toArray k1) :: tl) ∧ k ≤ vs.length ∧ n = spMu (pcs l) cell k
theorem sum_cast1 (xs : List Nat) : (xs.map fun x => ((x : Nat) : Int)).sum = ((xs.sum : Nat) : Int) := by
  induction xs with
  | nil => rfl
  | cons c r ih => simp only [List.map_cons, List.sum_cons, ih]; omega
theorem sum_cast2 (sps : List Span) (k : Nat) : ((sps.map fun q => ((size q : Nat) : Int)).take k).sum = ((Psum sps k : Nat) : Int) := by
  unfold Psum
  rw [← sum_cast1, List.map_take, List.map_map]
  rfl
/-- what the splitting of a text hands back -/
abbrev SplitOut (l : List Nat) (cell : Nat) : Out4 := fun gs nw gs' r => ∃ (ps' : Array Value) (T : Addr) (kn : Nat) (a b : List Nat) (sa sb : Str) (ta tb : Tok), r = .ref T ∧ nw = [(219, tabObj ps'), (T, tup2 (.str sa ta) (.str sb tb) kn)] ∧ TriplesOk ps'.toList ∧ (AllBare gs → AllBare gs') ∧ sa = ⟨a.toArray⟩ ∧ sb = ⟨b.toArray⟩ ∧ IsSplit l (pcs l) cell a b
theorem sp_close {g h' : Heap} {L T : Addr} {s : Shared} {l : List Nat} {cell tk' kn : Nat} {gs' : Array GenState} {m' : Str → Option Value} {nw : List (Addr × Obj)} {ps' : Array Value} {sa sb : Str} {ta tb : Tok}
    (F : Fr g L h' m') (N : News g L h' nw) (hs : ∀ p ∈ [(219, tabObj ps'), (T, tup2 (.str sa ta) (.str sb tb) kn)], p ∈ nw) (ht : TriplesOk ps'.toList) (hG : AllBare s.gens → AllBare gs') (a b : List Nat) (ea : sa = ⟨a.toArray⟩) (eb : sb = ⟨b.toArray⟩) (hI : IsSplit l (pcs l) cell a b) :
    RetP g L s (SplitOut l cell) (.ret (.ref T)) { s with heap := h', toks := tk', gens := gs' } :=
  RetP.introG _ F N hs ⟨ps', T, kn, a, b, sa, sb, ta, tb, rfl, rfl, ht, hG, ea, eb, hI⟩
theorem sp_next {l : List Nat} {cell : Nat} {t u u0 u1 : Tok} {g h : Heap} {L sl : Addr} {s₀ : Shared} {ps : Array Value} {gs : Array GenState} {vs : List Value} {k1 n tk : Nat} {tl nw : List (Addr × Obj)} {f : Str → Option Value} {ai aw : Int}
    (F : Fr g L h f) (N : News g L h nw) (hs : ∀ p ∈ (219, tabObj ps) :: (sl, listOf vs.toArray k1) :: tl, p ∈ nw)
    (hk : Knows [(Str.ofString "offset", .int ai u0), (Str.ofString "left_size", .int aw u1), (Str.ofString "spans", .ref sl), (Str.ofString "cell_position", .int (cell : Nat) u), (Str.ofString "text", .str ⟨l.toArray⟩ t)] f)
    (k : Nat) (hai : ai = (k : Nat)) (haw : aw = (Psum (pcs l) k : Nat)) (hkv : k ≤ vs.length) (hn : spMu (pcs l) cell k < n) : WhileNext (SpJ l cell t u g L s₀ ps gs vs sl k1 tl) n { s₀ with heap := h, toks := tk, gens := gs } := by
  subst hai haw
  exact WhileNext.intro _ hn ⟨h, tk, f, u0, u1, k, rfl, fr_kn _ F hk, cb_drop N hs, hkv, rfl⟩
theorem split_gives (w : World) {l : List Nat} (hl : ∀ c ∈ l, Sign c) (hn : l.length < 1000) {cell : Nat} (hc1 : 1 ≤ cell) (hc2 : cell ≤ total l) {t u t' : Tok} {qs : Array Value} (hqs : TriplesOk qs.toList) : RawB PySem.Challenge.rw_fe0297_01.row.prog w (hd.heap_39 w.params) 224 [(219, tabObj qs)] [.str ⟨l.toArray⟩ t, .int (cell : Nat) u, .str (Str.ofString "auto") t'] 40 140
    (SplitOut l cell) := by
  refine rawB_of [(Str.ofString "text", .str ⟨l.toArray⟩ t), (Str.ofString "cell_position", .int (cell : Nat) u), (Str.ofString "unicode_version", .str (Str.ofString "auto") t')] (by k_is) (by k_is) (fun s X => binds_K X rfl (by k_is) rfl rfl rfl) (locs rfl) (by decide) rfl rfl rfl ?_
  intro dp un gd outer g L mg mb p loose s F X N T BMh hd hu
  have hT1 := total_le l
  replace F : Fr g L s.heap (fun y => List.lookup y [(Str.ofString "unicode_version", .str (Str.ofString "auto") t'), (Str.ofString "cell_position", .int (cell : Nat) u), (Str.ofString "text", .str ⟨l.toArray⟩ t)]) := F
  show wpAny _ _ _ _ _ _
  k_fold
  k_steps
  refine Halt.out ?_
  rename_i T' sl' vs k1 kn1 uu tl h4 tk2 hdat hz ho ho2 h3 h2 h1 tka u1 tk1 u0 tk0 h0 F2 N2
  obtain ⟨bm, ob, BMm⟩ := BMh
  have hlen : vs.length = (pcs l).length := by rw [hdat.length, List.length_map]
  have hoff : cell * vs.length / total l ≤ vs.length := Nat.div_le_of_le_mul (Nat.mul_le_mul_right _ hc2)
  generalize cell * vs.length / total l = off at F2 hoff
  refine' gen_make (P := 219) (c := 223) (L := L) (h₀ := g) ?F0 ?C ?BM ?hcode T.nolimit ?hh ?hco ?hclos ?hcell ?h0 ?hx ?hkind ?hroom ?_ ?hs
  case F0 => exact F2
  case C => exact ⟨_, _, _, _, _, _, _, _, _, X 223 _ rfl, rfl, rfl, rfl, rfl, rfl, rfl, rfl, rfl, by decide⟩
  case BM => exact BMm
  case hcode => exact rfl
  case hh => exact rfl
  case hco => exact rfl
  case hclos => with_unfolding_all exact rfl
  case hcell => decide
  case h0 => exact rfl
  case hx => exact rfl
  case hkind => exact rfl
  case hroom => exact (show dp < recursionLimit by omega)
  case hs => intro _; with_unfolding_all exact rfl
  k_steps
  rename_i D' h6 F6 N6 l1
  have h219 : ∀ x ∈ tl, x.1 ≠ 219 := fun x hx => ho x hx _ (.head _)
  have hT9 : T' ≠ 219 ∧ sl' ≠ 219 := ho2 _ (.head _)
  have hD9 : D' ≠ 219 := Nat.ne_of_gt l1.2.2.1
  have hoffs : ∀ x ∈ (D', listOf (vs.take off).toArray 0) :: (T', tup2 (.ref sl') (.int (total l : Nat) uu) kn1) :: (sl', listOf vs.toArray k1) :: tl, x.1 ≠ 219 :=
    List.forall_mem_cons.mpr ⟨hD9, List.forall_mem_cons.mpr ⟨hT9.1, List.forall_mem_cons.mpr ⟨hT9.2, h219⟩⟩⟩
  replace N6 : News g L h6 ((219, tabObj qs) :: (D', listOf (vs.take off).toArray 0) :: (T', tup2 (.ref sl') (.int (total l : Nat) uu) kn1) :: (sl', listOf vs.toArray k1) :: tl) := fun q hq => N6 q (by
    rcases List.mem_cons.mp hq with rfl | hq
    · exact .tail _ (.tail _ (.tail _ (.head _)))
    · rcases List.mem_cons.mp hq with rfl | hq
      · exact .head _
      · rcases List.mem_cons.mp hq with rfl | hq
        · exact .tail _ (.head _)
        · rcases List.mem_cons.mp hq with rfl | hq
          · exact .tail _ (.tail _ (.head _))
          · exact .tail _ (.tail _ (.tail _ (.tail _ hq))))
  refine' src_lst (val := fun i => (((pcs l).map fun q => ((size q : Nat) : Int))).getD i 0) ?F ?N ?m ?ht ?off ?_ ?_
  case F => exact F6
  case N => exact N6
  case m => exact .head _
  case ht => exact hqs
  case off => exact hoffs
  · intro code C A' E' i v t2 m₂ hA hD hU hv F3 hm hLC hk
    have hv2 : vs[i]? = some v := by
      by_cases hio : i < off
      · rw [List.getElem?_take_of_lt hio] at hv; exact hv
      · rw [List.getElem?_eq_none (by rw [List.length_take]; omega)] at hv; cases hv
    obtain ⟨q, a, kn, t1, t3, t4, e1, rfl, hma⟩ := dat_at hdat hv2
    have hoa := hk _ _ (h219 _ hma) (N6 _ (.tail _ (.tail _ (.tail _ (.tail _ hma))))).1
    replace hD : A'.depth ≤ dp + 1 := hD
    replace hU : A'.units ≤ un + 8 := hU
    have hIt : IsTup t2.heap a [Value.int (q.1 : Nat) t1, Value.int (q.2.1 : Nat) t3, Value.int (q.2.2 : Nat) t4].toArray := ⟨_, hoa, rfl, _, rfl⟩
    have e : (((pcs l).map fun q => ((size q : Nat) : Int))).getD i 0 = ((q.2.2 : Nat) : Int) := by simp [List.getD_eq_getElem?_getD, e1, size]
    clear F6 N6
    refine Subscript_ (gen_local F3 hm (wpAny_Constant_int ?_))
    refine item_tupleT (j := 2) (x := Value.int (q.2.2 : Nat) t4) hIt (by decide) (by decide) rfl rfl ?_
    rw [e]
    exact ⟨⟨_, rfl⟩, _, _, rfl, fun _ _ z => z⟩
  · intro a K s₅ ps' F5 N5 ht' hG hos hdr hLK hPK hNK X5
    obtain ⟨h5, g5, d5, tk5, os5⟩ := s₅
    replace hos : os5 = s.os := hos
    replace hdr : d5 = s.drawn := hdr
    subst hos hdr
    clear F6 N6
    show wpAny _ _ _ _ _ _
    k_steps
    refine Halt.out ?_
    have hfit : PyProof.Rows.SumFits ((pcs l).map fun q => ((size q : Nat) : Int)) := PyProof.Rows.sumFits_small (fun x hx => by
      obtain ⟨q, hq, rfl⟩ := List.mem_map.mp hx
      have := size_le hq
      omega) (by rw [List.length_map]; have := pcs_length l; omega)
    refine' sum_gen ?F ?N hLK hPK hNK X5 ?fit ?_
    case F => exact F5
    case N => exact N5
    case fit =>
      intro j hj
      have h3 := hfit j (by rw [List.length_map, ← hlen]; simp at hj; omega)
      rw [PyProof.Rows.preSum_getD]; exact h3
    intro t' h6 gs6 tk6 F6 N6 hG6
    clear F5 N5 X5
    have eS : preSum (fun i => (((pcs l).map fun q => ((size q : Nat) : Int))).getD i 0) (vs.take off).length = ((Psum (pcs l) off : Nat) : Int) := by
      rw [PyProof.Rows.preSum_getD, List.length_take, Nat.min_eq_left hoff]
      exact sum_cast2 (pcs l) off
    rw [eS]
    show wpAny _ _ _ _ _ _
    k_steps
    refine Halt.out ?_
    rename Fr _ _ _ _ => F7
    rename News _ _ _ _ => N7
    refine While_on (SpJ l cell t u g L s ps' gs6 vs sl' k1 tl) (spMu (pcs l) cell off) ⟨_, _, _, _, _, off, rfl, fr_kn [(Str.ofString "offset", _), (Str.ofString "left_size", _), (Str.ofString "spans", _), (Str.ofString "cell_position", _), (Str.ofString "text", _)] F7 (by walk_at "knows"), cb_drop N7 (by walk_at "news in"), hoff, rfl⟩ ?_
    clear F7 N7 eS hoffs
    rintro n s₁ ⟨h, tk, m, v0, v1, k, rfl, F, N, hkv, rfl⟩
    have hvl : vs.length < 2 ^ 20 := hz
    have hPa : Psum (pcs l) vs.length = total l := by rw [hlen, Psum_all _ (Nat.le_refl _), pcs_sum]
    have at' : ∀ i, i < vs.length → ∃ (st en sz : Nat) (a : Addr) (kn : Nat) (t1 t2 t3 : Tok), (pcs l)[i]? = some (st, en, sz) ∧ vs[i]? = some (.ref a) ∧ (a, tup3 (st : Nat) (en : Nat) (sz : Nat) t1 t2 t3 kn) ∈ tl ∧ st ≤ en ∧ en ≤ l.length ∧ Psum (pcs l) (i + 1) = Psum (pcs l) i + sz := fun i hi => by
      obtain ⟨⟨st, en, sz⟩, a, kn, t1, t2, t3, e1, e2, e3⟩ := dat_at hdat (List.getElem?_eq_getElem hi)
      have hb := pcs_bound (List.mem_of_getElem? e1)
      exact ⟨st, en, sz, a, kn, t1, t2, t3, e1, by rw [List.getElem?_eq_getElem hi, e2], e3, hb.1, hb.2, Psum_succ e1⟩
    generalize hP0 : Psum (pcs l) k = P0 at F
    by_cases hq : P0 = cell
    · have hqI : (((P0 : Nat) : Int) == ((cell : Nat) : Int)) = true := by rw [hq]; exact beq_self_eq_true _
      by_cases hkl : k = vs.length
      · have hkI : decide (((k : Nat) : Int) ≥ ((vs.length : Nat) : Int)) = true := decide_eq_true (by omega)
        show wpAny _ _ _ _ _ _
        k_fold
        k_steps
        exact sp_close (by assumption) (by assumption) (by walk_at "news in") ht' (fun G => hG6 (hG G)) l [] rfl (by decide) (.inl ⟨k, by omega, by rw [hP0, hq], .inl ⟨by omega, rfl, rfl⟩⟩)
      · have hkI : decide (((k : Nat) : Int) ≥ ((vs.length : Nat) : Int)) = false := decide_eq_false (by omega)
        obtain ⟨st, en, sz, a, kn, t1, t2, t3, e1, e2, e3, b1, b2, b3⟩ := at' k (by omega)
        replace N : News g L h ((a, tup3 (st : Nat) (en : Nat) (sz : Nat) t1 t2 t3 kn) :: (219, tabObj ps') :: (sl', listOf vs.toArray k1) :: tl) := List.forall_mem_cons.mpr ⟨N _ (.tail _ (.tail _ e3)), N⟩
        show wpAny _ _ _ _ _ _
        k_fold
        k_steps
        exact sp_close (by assumption) (by assumption) (by walk_at "news in") ht' (fun G => hG6 (hG G)) (l.take st) (l.drop st) rfl rfl (.inl ⟨k, by omega, by rw [hP0, hq], .inr ⟨_, e1, rfl, rfl⟩⟩)
    · have hqI : (((P0 : Nat) : Int) == ((cell : Nat) : Int)) = false := beq_eq_false_iff_ne.mpr (by omega)
      by_cases hlt : P0 < cell
      · have hlI : decide (((P0 : Nat) : Int) < ((cell : Nat) : Int)) = true := decide_eq_true (by omega)
        have hkl : k < vs.length := by
          rcases Nat.lt_or_ge k vs.length with h | h
          · exact h
          · have := Psum_mono (pcs l) h; omega
        obtain ⟨st, en, sz, a, kn, t1, t2, t3, e1, e2, e3, b1, b2, b3⟩ := at' k hkl
        replace N : News g L h ((a, tup3 (st : Nat) (en : Nat) (sz : Nat) t1 t2 t3 kn) :: (219, tabObj ps') :: (sl', listOf vs.toArray k1) :: tl) := List.forall_mem_cons.mpr ⟨N _ (.tail _ (.tail _ e3)), N⟩
        by_cases hov : cell < P0 + sz
        · have hoI : decide (((P0 : Nat) : Int) + ((sz : Nat) : Int) > ((cell : Nat) : Int)) = true := decide_eq_true (by omega)
          show wpAny _ _ _ _ _ _
          k_fold
          k_steps
          exact sp_close (by assumption) (by assumption) (by walk_at "news in") ht' (fun G => hG6 (hG G)) (l.take st ++ [32]) ([32] ++ l.drop en) rfl rfl (.inr ⟨k, _, e1, by rw [hP0]; exact hlt, by rw [hP0]; exact hov, rfl, rfl⟩)
        · have hoI : decide (((P0 : Nat) : Int) + ((sz : Nat) : Int) > ((cell : Nat) : Int)) = false := decide_eq_false (by omega)
          show wpAny _ _ _ _ _ _
          k_fold
          k_steps
          exact sp_next (by assumption) (by assumption) (by walk_at "news in") (by walk_at "knows") (k + 1) (by omega) (by omega) (by omega) (by unfold spMu; rw [hP0, if_neg hq, if_pos hlt]; split <;> (try split) <;> omega)
      · have hlI : decide (((P0 : Nat) : Int) < ((cell : Nat) : Int)) = false := decide_eq_false (by omega)
        obtain ⟨k, rfl⟩ : ∃ j, k = j + 1 := ⟨k - 1, by
          cases k with
          | zero => rw [Psum_zero] at hP0; omega
          | succ k => rfl⟩
        obtain ⟨st, en, sz, a, kn, t1, t2, t3, e1, e2, e3, b1, b2, b3⟩ := at' k (by omega)
        replace N : News g L h ((a, tup3 (st : Nat) (en : Nat) (sz : Nat) t1 t2 t3 kn) :: (219, tabObj ps') :: (sl', listOf vs.toArray k1) :: tl) := List.forall_mem_cons.mpr ⟨N _ (.tail _ (.tail _ e3)), N⟩
        by_cases hov : P0 - sz < cell
        · have hoI : decide (((P0 : Nat) : Int) - ((sz : Nat) : Int) < ((cell : Nat) : Int)) = true := decide_eq_true (by omega)
          show wpAny _ _ _ _ _ _
          k_fold
          k_steps
          exact sp_close (by assumption) (by assumption) (by walk_at "news in") ht' (fun G => hG6 (hG G)) (l.take st ++ [32]) ([32] ++ l.drop en) rfl rfl (.inr ⟨k, _, e1, by omega, by show cell < Psum (pcs l) k + sz; omega, rfl, rfl⟩)
        · have hoI : decide (((P0 : Nat) : Int) - ((sz : Nat) : Int) < ((cell : Nat) : Int)) = false := decide_eq_false (by omega)
          show wpAny _ _ _ _ _ _
          k_fold
          k_steps
          exact sp_next (by assumption) (by assumption) (by walk_at "news in") (by walk_at "knows") k (by omega) (by omega) (by omega) (by unfold spMu; rw [hP0, if_neg hq, if_neg hlt]; split <;> (try split) <;> omega)
end Mine
namespace Mine
open PySem PySem.Spec PySem.Calls PyProof.Rows PySem.W
local macro_rules | `(tactic| walk_at "news in") => `(tactic| first | (with_reducible exact sub_self) | (with_reducible exact sub_nil) | ((with_reducible refine sub_cons ?a1 ?a2); (case a1 => k_mem); (case a2 => walk_at "news in")) | ((with_reducible refine sub_app ?a1 ?a2); (case a1 => walk_at "news in"); (case a2 => walk_at "news in")) | ((with_reducible refine sub_skip ?_); walk_at "news in") | ((with_reducible refine sub_appL ?_); walk_at "news in") | ((with_reducible refine sub_appR ?_); walk_at "news in"))
local macro_rules | `(tactic| k_room) => `(tactic| ktr_room)
local macro_rules | `(tactic| walk_at "my room") => `(tactic| ((try dsimp only); first | ktr_room | omega))
local macro_rules | `(tactic| walk_at "my units") => `(tactic| ((try dsimp only); first | ktr_units | omega))
local macro_rules | `(tactic| walk_at "my given") => `(tactic| ((case hh => first | exact rfl | assumption); (case F => k_asm); (case X => k_asm); (case N => k_asm); (case T => k_asm); (case hs => walk_at "news in"); (case hd => walk_at "my room"); (case hu => walk_at "my units")))
local macro_rules | `(tactic| walk_at "getMethod type:tuple") => `(tactic| (k_here; refine' method_type ?F ?X ?m (by decide +kernel) ?e ?h ?_; (case F => k_asm); (case X => k_asm); (case m => exact meta_tuple'); (case e => k_dflt k_is); (case h => k_handed)))
local macro_rules | `(tactic| walk_at "ForPost") => `(tactic| dsimp only [ForPost])
local macro_rules | `(tactic| walk_at "WhilePost") => `(tactic| dsimp only [WhilePost])
local macro_rules | `(tactic| walk_at "knows") => `(tactic| first | exact kn_nil | (refine kn_cons ?a1 ?a2; (case a1 => first | with_reducible assumption | exact rfl | with_unfolding_all exact rfl); (case a2 => walk_at "knows")))
local macro_rules | `(tactic| walk_at "WhileEnd") => `(tactic| dsimp only [WhileEnd])
local macro_rules | `(tactic| walk_at "call ref") => `(tactic| (k_here; (with_reducible show wpAny _ _ (call (Value.ref 163) _) _ _ _); k_dflt (refine' load_use ?hh ?F ?X ?N ?T ?hd ?hu ?_; (case hh => first | exact rfl | assumption); (case F => k_asm); (case X => k_asm); (case N => k_asm); (case T => k_asm); (case hd => walk_at "my room"); (case hu => walk_at "my units"); k_whole; intro x' dx' t' h' tk' F' N'; (try k_sweep))))
local macro_rules | `(tactic| walk_at "getAttr ref") => `(tactic| (k_here; k_dflt (first
  | ((with_reducible show wpAny _ _ (getAttr _ (Str.ofString "widths") _) _ _ _); refine' widths_ct ?hh ?F ?X ?N ?m1 ?m2 ?T ?hd ?hu ?h9 ?_; (case hh => first | exact rfl | assumption); (case F => k_asm); (case X => k_asm); (case N => k_asm); (case m1 => k_mem); (case m2 => k_mem); (case T => k_asm); (case hd => walk_at "my room"); (case hu => walk_at "my units"); (case h9 => exact rfl); k_whole; intro h' tk' F' N'; (try k_sweep))
  | ((with_reducible show wpAny _ _ (getAttr _ (Str.ofString "narrow_to_wide") _) _ _ _); refine' narrow_ct ?hh ?F ?X ?N ?m1 ?m2 ?T ?hd ?hu ?h9 ?_; (case hh => first | exact rfl | assumption); (case F => k_asm); (case X => k_asm); (case N => k_asm); (case m1 => k_mem); (case m2 => k_mem); (case T => k_asm); (case hd => walk_at "my room"); (case hu => walk_at "my units"); (case h9 => exact rfl); k_whole; intro h' tk' F' N'; (try k_sweep)))))
local macro_rules | `(tactic| walk_at "exec For Name Name cons nil") => `(tactic| refine halt ?_)
local macro_rules | `(tactic| walk_at "exec For Name Call cons nil") => `(tactic| refine halt ?_)
local macro_rules | `(tactic| walk_at "exec For Tuple Name cons nil") => `(tactic| refine halt ?_)
local macro_rules | `(tactic| walk_at "exec For Tuple Name cons cons") => `(tactic| refine halt ?_)
local macro_rules | `(tactic| walk_at "exec While Compare cons nil") => `(tactic| refine halt ?_)
local macro_rules | `(tactic| walk_at "exec While Constant cons nil") => `(tactic| refine halt ?_)
local macro_rules | `(tactic| walk_at "call builtin:len") => `(tactic| (k_here; (with_reducible show wpAny _ _ (call (Value.builtin "len") [Value.str ⟨List.toArray _⟩ _]) _ _ _); k_dflt (refine len_sg (by omega) ?_; intro u' tk')))
local macro_rules | `(tactic| walk_at "subscriptTail") => `(tactic| (k_here; (with_reducible show wpAny _ _ (subscriptTail _ _ (Value.str ⟨List.toArray _⟩ _) (Value.int (Nat.cast _) _)) _ _ _); k_dflt (refine item_sg (by omega) (by assumption) ?_; intro u' tk')))
local macro_rules | `(tactic| walk_at "subscriptTail Name Name str int") => `(tactic| (k_here; (with_reducible show wpAny _ _ (subscriptTail _ _ (Value.str ⟨List.toArray _⟩ _) (Value.int (Nat.cast _) _)) _ _ _); k_dflt (refine item_sg (by omega) (by assumption) ?_; intro u' tk')))
local macro_rules | `(tactic| walk_at "subscriptTail") => `(tactic| (k_here; (with_reducible show wpAny _ _ (subscriptTail _ _ (Value.ref _) (Value.int _ _)) _ _ _); k_dflt (refine' item_last ?N ?m ?_ ?s; (case N => k_asm); (case m => k_mem); (case s => with_unfolding_all rfl); k_whole)))
local macro_rules | `(tactic| walk_at "subscriptTail Name UnaryOp ref int") => `(tactic| (k_here; (with_reducible show wpAny _ _ (subscriptTail _ _ (Value.ref _) (Value.int _ _)) _ _ _); k_dflt (refine' item_last ?N ?m ?_ ?s; (case N => k_asm); (case m => k_mem); (case s => with_unfolding_all rfl); k_whole)))
local macro_rules | `(tactic| walk_at "subscriptTail Name Constant ref int") => `(tactic| (k_here; (with_reducible show wpAny _ _ (subscriptTail _ _ (Value.ref _) (Value.int _ _)) _ _ _); k_dflt (refine' item_last ?N ?m ?_ ?s; (case N => k_asm); (case m => k_mem); (case s => with_unfolding_all rfl); k_whole)))
local macro_rules | `(tactic| walk_at "my upd") => `(tactic| first | exact Upd.head (by assumption) | (refine' Upd.tail ?a ?b; (case a => k_ne); (case b => walk_at "my upd")))
local macro_rules | `(tactic| walk_at "setItem ref int") => `(tactic| (k_here; (with_reducible show wpAny _ _ (PySem.setItem (Value.ref _) (Value.int _ _) (Value.ref _)) _ _ _); k_dflt (refine' set_last ?F ?N ?U ?_; (case F => k_asm); (case N => k_asm); (case U => walk_at "my upd"); k_whole); intro h' F' N'; (try k_sweep)))
local macro_rules | `(tactic| walk_at "setItem ref int ref") => `(tactic| (k_here; (with_reducible show wpAny _ _ (PySem.setItem (Value.ref _) (Value.int _ _) (Value.ref _)) _ _ _); k_dflt (refine' set_last ?F ?N ?U ?_; (case F => k_asm); (case N => k_asm); (case U => walk_at "my upd"); k_whole); intro h' F' N'; (try k_sweep)))
local macro_rules | `(tactic| walk_at "call builtin:list.append") => `(tactic| (k_here; (with_reducible show wpAny _ _ (call (Value.builtin _) [Value.ref _, _]) _ _ _); k_dflt (refine' append_l ?F ?N ?U ?_ ?z; (case F => k_asm); (case N => k_asm); (case U => walk_at "my upd"); (case z => first | assumption | (simp; done) | (simp; omega)); k_whole); intro h' F' N'; (try k_sweep)))
local macro_rules | `(tactic| walk_at "truthy ref") => `(tactic| (k_here; (with_reducible show wpAny _ _ (truthy (Value.ref _)) _ _ _); k_dflt (refine' truthy_snoc ?N ?m ?z ?_; (case N => k_asm); (case m => k_mem); (case z => first | assumption | omega); k_whole; intro tk')))
local macro_rules | `(tactic| walk_at "truthy str") => `(tactic| (k_here; (with_reducible show wpAny _ _ (truthy (Value.str ⟨#[_]⟩ _)) _ _ _); k_dflt (refine truthy_sign ?_; intro tk')))
local macro_rules | `(tactic| walk_at "compareOp In str ref") => `(tactic| (k_here; (with_reducible show wpAny _ _ (compareOp CmpOp.In _ (Value.ref 155)) _ _ _); k_dflt (refine' in_narrow ?F ?X ?hx ?hb ?_; (case F => k_asm); (case X => k_asm); (case hx => assumption); (case hb => assumption); k_whole)))
local macro_rules | `(tactic| walk_at "compareOp In str ref") => `(tactic| (k_here; k_dflt (refine' in_special ?N ?m ?HS ?hb ?_; (case HS => assumption); (case hb => first | assumption | exact rfl); (case N => k_asm); (case m => k_mem); k_whole; intro tk')))
local macro_rules | `(tactic| walk_at "call ref") => `(tactic| (k_here; (with_reducible show wpAny _ _ (call (Value.ref 185) _) _ _ _); k_dflt (refine' size_use (w := _) ?hc ?hh ?F ?X ?N ?T ?hd ?hu ?_; (case hc => assumption); (case hh => first | exact rfl | assumption); (case F => k_asm); (case X => k_asm); (case N => k_asm); (case T => k_asm); (case hd => walk_at "my room"); (case hu => walk_at "my units"); k_whole; intro u' h' tk' F' N'; (try k_sweep))))
local macro_rules | `(tactic| walk_at "loadName") => `(tactic| (k_here; k_dflt (refine loadX_L (by k_asm) (by rfl) ?_)))
local macro_rules | `(tactic| walk_at "eval Name") => `(tactic| (k_here; (with_reducible show wpAny _ _ (eval (Expr.Name _ _) (genEnv _ _ _ _ _ _)) _ _ _); k_dflt (first
  | refine gen_local (by k_asm) (by assumption) ?_
  | refine gen_free (by k_asm) (by rfl) (by k_mem) (by assumption) ?_
  | refine gen_global (by k_asm) (by k_asm) (by k_asm) (by k_is) ?_)))
local macro_rules | `(tactic| walk_at "call ref") => `(tactic| (k_here; (with_reducible show wpAny _ _ (call (Value.ref 185) _) _ _ _); k_dflt (refine' size_use2 (w := _) ?hc ?hh ?F ?X ?N ?T ?hd ?hu ?_; (case hc => assumption); (case hh => first | exact rfl | assumption); (case F => k_asm); (case X => k_asm); (case N => k_asm); (case T => k_asm); (case hd => walk_at "my room"); (case hu => walk_at "my units"); k_whole; intro u' h' tk' k' F' N'; (try k_sweep))))
local macro_rules | `(tactic| walk_at "compareOp NotIn str str") => `(tactic| (k_here; k_dflt (first | (refine notin_sg (c := 8205) (by decide) ?_; k_whole) | (refine notin_sg (c := 65039) (by decide) ?_; k_whole))))
local macro_rules | `(tactic| walk_at "call ref") => `(tactic| (k_here; (with_reducible show wpAny _ _ (call (Value.ref 177) _) _ _ _); k_dflt (refine' single_use (w := _) ?hc ?hh ?F ?X ?N ?T ?hd ?hu ?_; (case hc => assumption); (case hh => first | exact rfl | assumption); (case F => k_asm); (case X => k_asm); (case N => k_asm); (case T => k_asm); (case hd => walk_at "my room"); (case hu => walk_at "my units"); k_whole; intro h' tk' F' N'; (try k_sweep))))
local macro_rules | `(tactic| walk_at "subscriptTail Name Slice str ref") => `(tactic| (k_here; (with_reducible show wpAny _ _ (subscriptTail _ (Expr.Slice none (some _) none _) (Value.str ⟨List.toArray _⟩ _) _) _ _ _); (with_reducible rename Fr _ _ _ _ => F'); (with_reducible rename News _ _ _ _ => N'); k_dflt (refine' cut_to (s := ⟨_, _, _, _, _⟩) F' N' ?z ?j ?_ ?s ?t; (case s => with_unfolding_all rfl); (case t => intro _; with_unfolding_all rfl); (case z => omega); (case j => first | assumption | omega)); intro _ _ _ _ _; (try k_sweep)))
local macro_rules | `(tactic| walk_at "subscriptTail Name Slice str ref") => `(tactic| (k_here; (with_reducible show wpAny _ _ (subscriptTail _ (Expr.Slice (some _) none none _) (Value.str ⟨List.toArray _⟩ _) _) _ _ _); (with_reducible rename Fr _ _ _ _ => F'); (with_reducible rename News _ _ _ _ => N'); k_dflt (refine' cut_from (s := ⟨_, _, _, _, _⟩) F' N' ?z ?j ?_ ?s ?t; (case s => with_unfolding_all rfl); (case t => intro _; with_unfolding_all rfl); (case z => omega); (case j => first | assumption | omega)); intro _ _ _ _ _; (try k_sweep)))
local macro_rules | `(tactic| walk_at "subscriptTail Name Slice str ref") => `(tactic| (k_here; (with_reducible show wpAny _ _ (subscriptTail _ (Expr.Slice (some _) (some _) none _) (Value.str ⟨List.toArray _⟩ _) _) _ _ _); (with_reducible rename Fr _ _ _ _ => F'); (with_reducible rename News _ _ _ _ => N'); k_dflt (refine' cut_mid (s := ⟨_, _, _, _, _⟩) F' N' ?z ?i ?j ?_ ?s ?t; (case s => with_unfolding_all rfl); (case t => intro _; with_unfolding_all rfl); (case z => omega); (case i => first | assumption | omega); (case j => first | assumption | omega)); intro _ _ _ _ _; (try k_sweep)))
local macro_rules | `(tactic| walk_at "subscriptTail Name Slice ref ref") => `(tactic| (k_here; (with_reducible show wpAny _ _ (subscriptTail _ (Expr.Slice none (some _) none _) (Value.ref _) _) _ _ _); (with_reducible rename Fr _ _ _ _ => F'); (with_reducible rename News _ _ _ _ => N'); k_dflt (refine' cut_list (s := ⟨_, _, _, _, _⟩) F' N' ?m ?z ?j ?_ ?s ?t; (case m => k_mem); (case s => with_unfolding_all rfl); (case t => intro _; with_unfolding_all rfl); (case z => first | assumption | omega); (case j => first | assumption | omega)); intro D' h' F' N' l1; (try k_lt l1); (try k_sweep)))
local macro_rules | `(tactic| walk_at "call builtin:len") => `(tactic| (k_here; (with_reducible show wpAny _ _ (call (Value.builtin "len") [Value.ref _]) _ _ _); k_dflt (refine' len_l ?N ?m ?z ?_; (case N => k_asm); (case m => k_mem); (case z => first | assumption | omega); k_whole); intro u' tk'))
local macro_rules | `(tactic| walk_at "binaryOp FloorDiv int int") => `(tactic| (k_here; k_dflt (refine' fdiv_nat ?a ?b ?_; (case a => omega); (case b => omega); k_whole); intro u' tk'))
local macro_rules | `(tactic| walk_at "subscriptTail Name Name ref int") => `(tactic| (k_here; (with_reducible show wpAny _ _ (subscriptTail _ _ (Value.ref _) (Value.int (Nat.cast _) _)) _ _ _); k_dflt (refine' item_nth ?N ?m ?i ?x ?_ ?s; (case N => k_asm); (case m => k_mem); (case i => omega); (case x => assumption); (case s => with_unfolding_all rfl); k_whole)))
local macro_rules | `(tactic| walk_at "subscriptTail Name BinOp ref int") => `(tactic| (k_here; (with_reducible show wpAny _ _ (subscriptTail _ _ (Value.ref _) (Value.int _ _)) _ _ _); k_dflt (refine' item_pred ?N ?m ?i ?x ?_ ?s; (case N => k_asm); (case m => k_mem); (case i => omega); (case x => assumption); (case s => with_unfolding_all rfl); k_whole)))
local macro_rules | `(tactic| walk_at "subscriptTail Subscript Name Name Constant ref int") => `(tactic| (k_here; (with_reducible show wpAny _ _ (subscriptTail _ _ (Value.ref _) (Value.int _ _)) _ _ _); k_dflt (refine' item_tup ?N ?m ?lo ?hi ?hj ?hx ?_ ?s; (case N => k_asm); (case m => k_mem); (case lo => decide); (case hi => decide); (case hj => exact rfl); (case hx => exact rfl); (case s => with_unfolding_all rfl); k_whole)))
local macro_rules | `(tactic| walk_at "binaryOp Add str str") => `(tactic| (k_here; k_dflt (first
  | ((with_reducible show wpAny _ _ (binaryOp _ (Value.str ⟨List.toArray _⟩ _) (Value.str (Str.ofString _) _)) _ _ _); refine add_sg (b := [32]) (by decide) (by simp; omega) ?_; intro _ _)
  | ((with_reducible show wpAny _ _ (binaryOp _ (Value.str (Str.ofString _) _) (Value.str ⟨List.toArray _⟩ _)) _ _ _); refine add_gs (a := [32]) (by decide) (by simp; omega) ?_; intro _ _))))
theorem fill9 : ∀ (w : World) (h : Heap), (hd.heap_39 w.params).In h → PySem.Challenge.rw_fe0297_01.row.prog = PySem.Challenge.rw_fe0297_01.row.prog → True := by
  k_fill
  intros
  trivial

/-- a splitting, used -/
theorem split_use {prog : Program} {w : World} {K : Frag} {f : Addr} {vs : List Value} {D U : Nat} {ps : Array Value} {l : List Nat} {cell : Nat} {A : Around} {E : Value → Shared → Prop} {s : Shared} {h₀ : Heap} {L : Addr} {m mg mb : Str → Option Value} {p : Program} {loose : List Str} {news : List (Addr × Obj)} {Q : Value → Shared → Prop}
    (G : RawB prog w K f [(219, tabObj ps)] vs D U (SplitOut l cell)) (BMh : BM mg h₀) (hh : A.handled = none) (F : Fr h₀ L s.heap m) (X : K.In h₀) (N : News h₀ L s.heap news) (T : TopRead p loose mg mb h₀) (hm : (219, tabObj ps) ∈ news)
    (hd : A.depth + D < recursionLimit) (hu : A.units + U < cLine) (rest : List (Addr × Obj)) (hrest : ∀ q ∈ rest, q ∈ news ∧ q.1 ≠ 219)
    (h : ∀ ps' T kn a b sa sb ta tb h' tk' gs', Fr h₀ L h' m → News h₀ L h' ((219, tabObj ps') :: (T, tup2 (.str sa ta) (.str sb tb) kn) :: rest) → (∀ q ∈ rest, T ≠ q.1) → TriplesOk ps'.toList → (AllBare s.gens → AllBare gs') → sa = ⟨a.toArray⟩ → sb = ⟨b.toArray⟩ → IsSplit l (pcs l) cell a b →
      Q (.ref T) { s with heap := h', toks := tk', gens := gs' }) :
    wpAny (model prog w) A (call (.ref f) vs) Q E s := by
  refine RawB.use G BMh hh F X N T (List.forall_mem_cons.mpr ⟨hm, fun _ h => nomatch h⟩) hd hu ?_
  rintro r nw h' tk' gs' F' N' k ⟨ps', T, kn, a, b, sa, sb, ta, tb, rfl, rfl, ht, hg, ea, eb, hI⟩
  refine h ps' T kn a b sa sb ta tb h' tk' gs' F' (fun q hq => ?_) (fun q hq => ?_) ht hg ea eb hI
  · rcases List.mem_cons.mp hq with rfl | hq
    · exact N' _ (.head _)
    · rcases List.mem_cons.mp hq with rfl | hq
      · exact N' _ (.tail _ (.head _))
      · obtain ⟨h1, h2⟩ := hrest q hq
        exact ⟨(k q h1 (fun hm => h2 (List.mem_singleton.mp hm))).1, (N q h1).2⟩
  · obtain ⟨h1, h2⟩ := hrest q hq
    exact (k q h1 (fun hm => h2 (List.mem_singleton.mp hm))).2 _ (.tail _ (.head _))
theorem splitext_gives (w : World) {l : List Nat} (hl : ∀ c ∈ l, Sign c) (hn : l.length < 1000) {cell : Nat} (hc1 : 1 ≤ cell) (hc2 : cell ≤ total l) {t u : Tok} {qs : Array Value} (hqs : TriplesOk qs.toList) : RawB PySem.Challenge.rw_fe0297_01.row.prog w (hd.heap_39 w.params) 232 [(219, tabObj qs)] [.str ⟨l.toArray⟩ t, .int (cell : Nat) u] 42 150
    (SplitOut l cell) := by
  refine rawB_of [(Str.ofString "text", .str ⟨l.toArray⟩ t), (Str.ofString "cell_position", .int (cell : Nat) u), (Str.ofString "unicode_version", .str (Str.ofString "auto") _)] (by k_is) (by k_is) (fun s X => binds_K X rfl (by k_is) rfl rfl rfl) (locs rfl) (by decide) rfl rfl rfl ?_
  intro dp un gd outer g L mg mb p loose s F X N T BMh hd hu
  replace F : Fr g L s.heap (fun y => List.lookup y [(Str.ofString "unicode_version", .str (Str.ofString "auto") _), (Str.ofString "cell_position", .int (cell : Nat) u), (Str.ofString "text", .str ⟨l.toArray⟩ t)]) := F
  by_cases h1 : l.all one = true
  · have hcl : cell ≤ l.length := by rw [total_one h1] at hc2; exact hc2
    show wpAny _ _ _ _ _ _
    k_fold
    k_steps
    exact sp_close (by assumption) (by assumption) (by walk_at "news in") hqs id (l.take cell) (l.drop cell) rfl rfl (isSplit_one h1 hcl)
  · replace h1 : l.all one = false := by simpa using h1
    show wpAny _ _ _ _ _ _
    k_fold
    k_steps
    k_dflt (refine' split_use (split_gives w hl hn hc1 hc2 hqs) BMh rfl ?F ?X ?N ?T (.head _) ?hd ?hu [] (fun _ h => nomatch h) ?_)
    case F => k_asm
    case X => k_asm
    case N => k_asm
    case T => k_asm
    case hd => walk_at "my room"
    case hu => walk_at "my units"
    intro ps' T kn a b sa sb ta tb h' tk' gs' F' N' _ ht hg ea eb hI
    k_steps
    exact sp_close F' N' (by walk_at "news in") ht hg a b ea eb hI
end Mine
namespace Mine
open PySem PySem.Spec PySem.Calls PyProof.Rows PySem.W
local macro_rules | `(tactic| walk_at "news in") => `(tactic| first | (with_reducible exact sub_self) | (with_reducible exact sub_nil) | ((with_reducible refine sub_cons ?a1 ?a2); (case a1 => k_mem); (case a2 => walk_at "news in")) | ((with_reducible refine sub_app ?a1 ?a2); (case a1 => walk_at "news in"); (case a2 => walk_at "news in")) | ((with_reducible refine sub_skip ?_); walk_at "news in") | ((with_reducible refine sub_appL ?_); walk_at "news in") | ((with_reducible refine sub_appR ?_); walk_at "news in"))
local macro_rules | `(tactic| k_room) => `(tactic| ktr_room)
local macro_rules | `(tactic| walk_at "my room") => `(tactic| ((try dsimp only); first | ktr_room | omega))
local macro_rules | `(tactic| walk_at "my units") => `(tactic| ((try dsimp only); first | ktr_units | omega))
local macro_rules | `(tactic| walk_at "my given") => `(tactic| ((case hh => first | exact rfl | assumption); (case F => k_asm); (case X => k_asm); (case N => k_asm); (case T => k_asm); (case hs => walk_at "news in"); (case hd => walk_at "my room"); (case hu => walk_at "my units")))
local macro_rules | `(tactic| walk_at "getMethod type:tuple") => `(tactic| (k_here; refine' method_type ?F ?X ?m (by decide +kernel) ?e ?h ?_; (case F => k_asm); (case X => k_asm); (case m => exact meta_tuple'); (case e => k_dflt k_is); (case h => k_handed)))
local macro_rules | `(tactic| walk_at "ForPost") => `(tactic| dsimp only [ForPost])
local macro_rules | `(tactic| walk_at "WhilePost") => `(tactic| dsimp only [WhilePost])
local macro_rules | `(tactic| walk_at "knows") => `(tactic| first | exact kn_nil | (refine kn_cons ?a1 ?a2; (case a1 => first | with_reducible assumption | exact rfl | with_unfolding_all exact rfl); (case a2 => walk_at "knows")))
local macro_rules | `(tactic| walk_at "WhileEnd") => `(tactic| dsimp only [WhileEnd])
local macro_rules | `(tactic| walk_at "call ref") => `(tactic| (k_here; (with_reducible show wpAny _ _ (call (Value.ref 163) _) _ _ _); k_dflt (refine' load_use ?hh ?F ?X ?N ?T ?hd ?hu ?_; (case hh => first | exact rfl | assumption); (case F => k_asm); (case X => k_asm); (case N => k_asm); (case T => k_asm); (case hd => walk_at "my room"); (case hu => walk_at "my units"); k_whole; intro x' dx' t' h' tk' F' N'; (try k_sweep))))
local macro_rules | `(tactic| walk_at "getAttr ref") => `(tactic| (k_here; k_dflt (first
  | ((with_reducible show wpAny _ _ (getAttr _ (Str.ofString "widths") _) _ _ _); refine' widths_ct ?hh ?F ?X ?N ?m1 ?m2 ?T ?hd ?hu ?h9 ?_; (case hh => first | exact rfl | assumption); (case F => k_asm); (case X => k_asm); (case N => k_asm); (case m1 => k_mem); (case m2 => k_mem); (case T => k_asm); (case hd => walk_at "my room"); (case hu => walk_at "my units"); (case h9 => exact rfl); k_whole; intro h' tk' F' N'; (try k_sweep))
  | ((with_reducible show wpAny _ _ (getAttr _ (Str.ofString "narrow_to_wide") _) _ _ _); refine' narrow_ct ?hh ?F ?X ?N ?m1 ?m2 ?T ?hd ?hu ?h9 ?_; (case hh => first | exact rfl | assumption); (case F => k_asm); (case X => k_asm); (case N => k_asm); (case m1 => k_mem); (case m2 => k_mem); (case T => k_asm); (case hd => walk_at "my room"); (case hu => walk_at "my units"); (case h9 => exact rfl); k_whole; intro h' tk' F' N'; (try k_sweep)))))
local macro_rules | `(tactic| walk_at "exec For Name Name cons nil") => `(tactic| refine halt ?_)
local macro_rules | `(tactic| walk_at "exec For Name Call cons nil") => `(tactic| refine halt ?_)
local macro_rules | `(tactic| walk_at "exec For Tuple Name cons nil") => `(tactic| refine halt ?_)
local macro_rules | `(tactic| walk_at "exec For Tuple Name cons cons") => `(tactic| refine halt ?_)
local macro_rules | `(tactic| walk_at "exec While Compare cons nil") => `(tactic| refine halt ?_)
local macro_rules | `(tactic| walk_at "exec While Constant cons nil") => `(tactic| refine halt ?_)
local macro_rules | `(tactic| walk_at "call builtin:len") => `(tactic| (k_here; (with_reducible show wpAny _ _ (call (Value.builtin "len") [Value.str ⟨List.toArray _⟩ _]) _ _ _); k_dflt (refine len_sg (by omega) ?_; intro u' tk')))
local macro_rules | `(tactic| walk_at "subscriptTail") => `(tactic| (k_here; (with_reducible show wpAny _ _ (subscriptTail _ _ (Value.str ⟨List.toArray _⟩ _) (Value.int (Nat.cast _) _)) _ _ _); k_dflt (refine item_sg (by omega) (by assumption) ?_; intro u' tk')))
local macro_rules | `(tactic| walk_at "subscriptTail Name Name str int") => `(tactic| (k_here; (with_reducible show wpAny _ _ (subscriptTail _ _ (Value.str ⟨List.toArray _⟩ _) (Value.int (Nat.cast _) _)) _ _ _); k_dflt (refine item_sg (by omega) (by assumption) ?_; intro u' tk')))
local macro_rules | `(tactic| walk_at "subscriptTail") => `(tactic| (k_here; (with_reducible show wpAny _ _ (subscriptTail _ _ (Value.ref _) (Value.int _ _)) _ _ _); k_dflt (refine' item_last ?N ?m ?_ ?s; (case N => k_asm); (case m => k_mem); (case s => with_unfolding_all rfl); k_whole)))
local macro_rules | `(tactic| walk_at "subscriptTail Name UnaryOp ref int") => `(tactic| (k_here; (with_reducible show wpAny _ _ (subscriptTail _ _ (Value.ref _) (Value.int _ _)) _ _ _); k_dflt (refine' item_last ?N ?m ?_ ?s; (case N => k_asm); (case m => k_mem); (case s => with_unfolding_all rfl); k_whole)))
local macro_rules | `(tactic| walk_at "subscriptTail Name Constant ref int") => `(tactic| (k_here; (with_reducible show wpAny _ _ (subscriptTail _ _ (Value.ref _) (Value.int _ _)) _ _ _); k_dflt (refine' item_last ?N ?m ?_ ?s; (case N => k_asm); (case m => k_mem); (case s => with_unfolding_all rfl); k_whole)))
local macro_rules | `(tactic| walk_at "my upd") => `(tactic| first | exact Upd.head (by assumption) | (refine' Upd.tail ?a ?b; (case a => k_ne); (case b => walk_at "my upd")))
local macro_rules | `(tactic| walk_at "setItem ref int") => `(tactic| (k_here; (with_reducible show wpAny _ _ (PySem.setItem (Value.ref _) (Value.int _ _) (Value.ref _)) _ _ _); k_dflt (refine' set_last ?F ?N ?U ?_; (case F => k_asm); (case N => k_asm); (case U => walk_at "my upd"); k_whole); intro h' F' N'; (try k_sweep)))
local macro_rules | `(tactic| walk_at "setItem ref int ref") => `(tactic| (k_here; (with_reducible show wpAny _ _ (PySem.setItem (Value.ref _) (Value.int _ _) (Value.ref _)) _ _ _); k_dflt (refine' set_last ?F ?N ?U ?_; (case F => k_asm); (case N => k_asm); (case U => walk_at "my upd"); k_whole); intro h' F' N'; (try k_sweep)))
local macro_rules | `(tactic| walk_at "call builtin:list.append") => `(tactic| (k_here; (with_reducible show wpAny _ _ (call (Value.builtin _) [Value.ref _, _]) _ _ _); k_dflt (refine' append_l ?F ?N ?U ?_ ?z; (case F => k_asm); (case N => k_asm); (case U => walk_at "my upd"); (case z => first | assumption | (simp; done) | (simp; omega)); k_whole); intro h' F' N'; (try k_sweep)))
local macro_rules | `(tactic| walk_at "truthy ref") => `(tactic| (k_here; (with_reducible show wpAny _ _ (truthy (Value.ref _)) _ _ _); k_dflt (refine' truthy_snoc ?N ?m ?z ?_; (case N => k_asm); (case m => k_mem); (case z => first | assumption | omega); k_whole; intro tk')))
local macro_rules | `(tactic| walk_at "truthy str") => `(tactic| (k_here; (with_reducible show wpAny _ _ (truthy (Value.str ⟨#[_]⟩ _)) _ _ _); k_dflt (refine truthy_sign ?_; intro tk')))
local macro_rules | `(tactic| walk_at "compareOp In str ref") => `(tactic| (k_here; (with_reducible show wpAny _ _ (compareOp CmpOp.In _ (Value.ref 155)) _ _ _); k_dflt (refine' in_narrow ?F ?X ?hx ?hb ?_; (case F => k_asm); (case X => k_asm); (case hx => assumption); (case hb => assumption); k_whole)))
local macro_rules | `(tactic| walk_at "compareOp In str ref") => `(tactic| (k_here; k_dflt (refine' in_special ?N ?m ?HS ?hb ?_; (case HS => assumption); (case hb => first | assumption | exact rfl); (case N => k_asm); (case m => k_mem); k_whole; intro tk')))
local macro_rules | `(tactic| walk_at "call ref") => `(tactic| (k_here; (with_reducible show wpAny _ _ (call (Value.ref 185) _) _ _ _); k_dflt (refine' size_use (w := _) ?hc ?hh ?F ?X ?N ?T ?hd ?hu ?_; (case hc => assumption); (case hh => first | exact rfl | assumption); (case F => k_asm); (case X => k_asm); (case N => k_asm); (case T => k_asm); (case hd => walk_at "my room"); (case hu => walk_at "my units"); k_whole; intro u' h' tk' F' N'; (try k_sweep))))
local macro_rules | `(tactic| walk_at "loadName") => `(tactic| (k_here; k_dflt (refine loadX_L (by k_asm) (by rfl) ?_)))
local macro_rules | `(tactic| walk_at "eval Name") => `(tactic| (k_here; (with_reducible show wpAny _ _ (eval (Expr.Name _ _) (genEnv _ _ _ _ _ _)) _ _ _); k_dflt (first
  | refine gen_local (by k_asm) (by assumption) ?_
  | refine gen_free (by k_asm) (by rfl) (by k_mem) (by assumption) ?_
  | refine gen_global (by k_asm) (by k_asm) (by k_asm) (by k_is) ?_)))
local macro_rules | `(tactic| walk_at "call ref") => `(tactic| (k_here; (with_reducible show wpAny _ _ (call (Value.ref 185) _) _ _ _); k_dflt (refine' size_use2 (w := _) ?hc ?hh ?F ?X ?N ?T ?hd ?hu ?_; (case hc => assumption); (case hh => first | exact rfl | assumption); (case F => k_asm); (case X => k_asm); (case N => k_asm); (case T => k_asm); (case hd => walk_at "my room"); (case hu => walk_at "my units"); k_whole; intro u' h' tk' k' F' N'; (try k_sweep))))
local macro_rules | `(tactic| walk_at "compareOp NotIn str str") => `(tactic| (k_here; k_dflt (first | (refine notin_sg (c := 8205) (by decide) ?_; k_whole) | (refine notin_sg (c := 65039) (by decide) ?_; k_whole))))
local macro_rules | `(tactic| walk_at "call ref") => `(tactic| (k_here; (with_reducible show wpAny _ _ (call (Value.ref 177) _) _ _ _); k_dflt (refine' single_use (w := _) ?hc ?hh ?F ?X ?N ?T ?hd ?hu ?_; (case hc => assumption); (case hh => first | exact rfl | assumption); (case F => k_asm); (case X => k_asm); (case N => k_asm); (case T => k_asm); (case hd => walk_at "my room"); (case hu => walk_at "my units"); k_whole; intro h' tk' F' N'; (try k_sweep))))
local macro_rules | `(tactic| walk_at "subscriptTail Name Slice str ref") => `(tactic| (k_here; (with_reducible show wpAny _ _ (subscriptTail _ (Expr.Slice none (some _) none _) (Value.str ⟨List.toArray _⟩ _) _) _ _ _); (with_reducible rename Fr _ _ _ _ => F'); (with_reducible rename News _ _ _ _ => N'); k_dflt (refine' cut_to (s := ⟨_, _, _, _, _⟩) F' N' ?z ?j ?_ ?s ?t; (case s => with_unfolding_all rfl); (case t => intro _; with_unfolding_all rfl); (case z => omega); (case j => first | assumption | omega)); intro _ _ _ _ _; (try k_sweep)))
local macro_rules | `(tactic| walk_at "subscriptTail Name Slice str ref") => `(tactic| (k_here; (with_reducible show wpAny _ _ (subscriptTail _ (Expr.Slice (some _) none none _) (Value.str ⟨List.toArray _⟩ _) _) _ _ _); (with_reducible rename Fr _ _ _ _ => F'); (with_reducible rename News _ _ _ _ => N'); k_dflt (refine' cut_from (s := ⟨_, _, _, _, _⟩) F' N' ?z ?j ?_ ?s ?t; (case s => with_unfolding_all rfl); (case t => intro _; with_unfolding_all rfl); (case z => omega); (case j => first | assumption | omega)); intro _ _ _ _ _; (try k_sweep)))
local macro_rules | `(tactic| walk_at "subscriptTail Name Slice str ref") => `(tactic| (k_here; (with_reducible show wpAny _ _ (subscriptTail _ (Expr.Slice (some _) (some _) none _) (Value.str ⟨List.toArray _⟩ _) _) _ _ _); (with_reducible rename Fr _ _ _ _ => F'); (with_reducible rename News _ _ _ _ => N'); k_dflt (refine' cut_mid (s := ⟨_, _, _, _, _⟩) F' N' ?z ?i ?j ?_ ?s ?t; (case s => with_unfolding_all rfl); (case t => intro _; with_unfolding_all rfl); (case z => omega); (case i => first | assumption | omega); (case j => first | assumption | omega)); intro _ _ _ _ _; (try k_sweep)))
local macro_rules | `(tactic| walk_at "subscriptTail Name Slice ref ref") => `(tactic| (k_here; (with_reducible show wpAny _ _ (subscriptTail _ (Expr.Slice none (some _) none _) (Value.ref _) _) _ _ _); (with_reducible rename Fr _ _ _ _ => F'); (with_reducible rename News _ _ _ _ => N'); k_dflt (refine' cut_list (s := ⟨_, _, _, _, _⟩) F' N' ?m ?z ?j ?_ ?s ?t; (case m => k_mem); (case s => with_unfolding_all rfl); (case t => intro _; with_unfolding_all rfl); (case z => first | assumption | omega); (case j => first | assumption | omega)); intro D' h' F' N' l1; (try k_lt l1); (try k_sweep)))
local macro_rules | `(tactic| walk_at "call builtin:len") => `(tactic| (k_here; (with_reducible show wpAny _ _ (call (Value.builtin "len") [Value.ref _]) _ _ _); k_dflt (refine' len_l ?N ?m ?z ?_; (case N => k_asm); (case m => k_mem); (case z => first | assumption | omega); k_whole); intro u' tk'))
local macro_rules | `(tactic| walk_at "binaryOp FloorDiv int int") => `(tactic| (k_here; k_dflt (refine' fdiv_nat ?a ?b ?_; (case a => omega); (case b => omega); k_whole); intro u' tk'))
local macro_rules | `(tactic| walk_at "subscriptTail Name Name ref int") => `(tactic| (k_here; (with_reducible show wpAny _ _ (subscriptTail _ _ (Value.ref _) (Value.int (Nat.cast _) _)) _ _ _); k_dflt (refine' item_nth ?N ?m ?i ?x ?_ ?s; (case N => k_asm); (case m => k_mem); (case i => omega); (case x => assumption); (case s => with_unfolding_all rfl); k_whole)))
local macro_rules | `(tactic| walk_at "subscriptTail Name BinOp ref int") => `(tactic| (k_here; (with_reducible show wpAny _ _ (subscriptTail _ _ (Value.ref _) (Value.int _ _)) _ _ _); k_dflt (refine' item_pred ?N ?m ?i ?x ?_ ?s; (case N => k_asm); (case m => k_mem); (case i => omega); (case x => assumption); (case s => with_unfolding_all rfl); k_whole)))
local macro_rules | `(tactic| walk_at "subscriptTail Subscript Name Name Constant ref int") => `(tactic| (k_here; (with_reducible show wpAny _ _ (subscriptTail _ _ (Value.ref _) (Value.int _ _)) _ _ _); k_dflt (refine' item_tup ?N ?m ?lo ?hi ?hj ?hx ?_ ?s; (case N => k_asm); (case m => k_mem); (case lo => decide); (case hi => decide); (case hj => exact rfl); (case hx => exact rfl); (case s => with_unfolding_all rfl); k_whole)))
local macro_rules | `(tactic| walk_at "binaryOp Add str str") => `(tactic| (k_here; k_dflt (first
  | ((with_reducible show wpAny _ _ (binaryOp _ (Value.str ⟨List.toArray _⟩ _) (Value.str (Str.ofString _) _)) _ _ _); refine add_sg (b := [32]) (by decide) (by simp; omega) ?_; intro _ _)
  | ((with_reducible show wpAny _ _ (binaryOp _ (Value.str (Str.ofString _) _) (Value.str ⟨List.toArray _⟩ _)) _ _ _); refine add_gs (a := [32]) (by decide) (by simp; omega) ?_; intro _ _))))
local macro_rules | `(tactic| walk_at "call ref") => `(tactic| (k_here; (with_reducible show wpAny _ _ (call (Value.ref 216) _) _ _ _); k_dflt (refine' gr_use (w := _) ?hc ?hn ?hh ?F ?X ?N ?T ?hd ?hu ?_; (case hc => assumption); (case hn => assumption); (case hh => first | exact rfl | assumption); (case F => k_asm); (case X => k_asm); (case N => k_asm); (case T => k_asm); (case hd => walk_at "my room"); (case hu => walk_at "my units"); k_whole; intro T' sl' vs' k' kn' u' tl' h' tk' F' N' hd' hz' ho' ho2'; (try simp only [List.cons_append, List.nil_append] at N'); (try k_sweep))))
local macro_rules | `(tactic| walk_at "eval ListComp") => `(tactic| refine halt ?_)
theorem fill10 : ∀ (w : World) (h : Heap), (hd.heap_39 w.params).In h → PySem.Challenge.rw_fe0297_01.row.prog = PySem.Challenge.rw_fe0297_01.row.prog → True := by
  k_fill
  intros
  trivial

theorem all_lt {d : Nat} : ∀ {l : List (Addr × Obj)}, AllLt d l → ∀ p ∈ l, p.1 ≠ d
  | [], _, _, h => nomatch h
  | _ :: _, x, p, h => by
    rcases List.mem_cons.mp h with rfl | h
    · exact Nat.ne_of_lt x.1
    · exact all_lt x.2 p h
def ldat (a : List Nat) : Dat := .str ⟨a.toArray⟩
abbrev ChopOut (l : List Nat) (wd : Nat) : Out4 := Keep [] fun tl r => ∃ D vs k, r = .ref D ∧ (D, listOf vs.toArray k) ∈ tl ∧ DatAll [] vs ((chopped l wd).map ldat)
/-- the loop of chop_cells -/
def ChJ (l : List Nat) (wd : Nat) (s : Shared) (base : List (Addr × Obj)) (ln : Addr) (j : Nat) (m : Str → Option Value) (rest : List (Addr × Obj)) (gs : Array GenState) : Prop :=
  ∃ (vs2 : List Value) (kk pos o used : Nat) (done : List (List Nat)) (uo uu : Tok), gs = s.gens ∧ rest = (ln, listOf vs2.toArray kk) :: base ∧ m (Str.ofString "line_size") = some (.int (used : Nat) uu) ∧ m (Str.ofString "lines") = some (.ref ln) ∧ m (Str.ofString "line_offset") = some (.int (o : Nat) uo) ∧
    DatAll [] vs2 (done.map ldat) ∧ ChI l wd j pos o used done
theorem dats_str {a : List Nat} {t : Tok} {vs : List Value} {done : List (List Nat)} (h : DatAll [] vs (done.map ldat)) : DatAll [] (vs ++ [.str ⟨a.toArray⟩ t]) ((done ++ [a]).map ldat) := by
  rw [List.map_append]
  exact h.append (DatAll.one (DatIn.str _ _))
theorem ch_next {l : List Nat} {wd : Nat} {s : Shared} {base : List (Addr × Obj)} {g h' : Heap} {L I ln : Addr} {oI : Obj} {m' : Str → Option Value} {nw : List (Addr × Obj)} {vs2 : List Value} {kk tk j : Nat} {a b : Int} {uu uo : Tok}
    (F : Fr g L h' m') (N : News g L h' nw) (hs : ∀ p ∈ (I, oI) :: (ln, listOf vs2.toArray kk) :: base, p ∈ nw) (hr : ∀ p ∈ (ln, listOf vs2.toArray kk) :: base, p.1 ≠ I) (k1 : m' (Str.ofString "line_size") = some (.int a uu)) (k2 : m' (Str.ofString "lines") = some (.ref ln)) (k3 : m' (Str.ofString "line_offset") = some (.int b uo))
    (pos o used : Nat) (done : List (List Nat)) (ha : a = (used : Nat)) (hb : b = (o : Nat)) (hd : DatAll [] vs2 (done.map ldat)) (hC : ChI l wd (j + 1) pos o used done) : ForNext g L I oI (ChJ l wd s base ln (j + 1)) s.drawn s.os ⟨h', s.gens, s.drawn, tk, s.os⟩ := by
  subst ha hb
  exact ForNext.intro _ F N hs hr ⟨vs2, kk, pos, o, used, done, uo, uu, rfl, rfl, k1, k2, k3, hd, hC⟩
theorem chop_loop (w : World) {l : List Nat} (hl : ∀ c ∈ l, Sign c) (hn : l.length < 1000) (hne : l ≠ []) (h1 : l.all one = false) {wd : Nat} (hw1 : 2 ≤ wd) (hw2 : wd < 100) {t u : Tok} : Raw PySem.Challenge.rw_fe0297_01.row.prog w (hd.heap_39 w.params) 238 [] [.str ⟨l.toArray⟩ t, .int (wd : Nat) u] 40 140 (ChopOut l wd) := by
  refine raw_ofC [(Str.ofString "text", .str ⟨l.toArray⟩ t), (Str.ofString "width", .int (wd : Nat) u), (Str.ofString "unicode_version", .str (Str.ofString "auto") _)] (by k_is) (by k_is) (fun s X => binds_K X rfl (by k_is) rfl rfl rfl) (fun n => List.forall_mem_cons.mpr ⟨.inr ⟨rfl, rfl⟩, List.forall_mem_cons.mpr ⟨.inr ⟨rfl, rfl⟩, List.forall_mem_cons.mpr ⟨.inl rfl, fun _ h => nomatch h⟩⟩⟩) (by decide) rfl rfl rfl ?_
  intro dp un gd outer g L mg mb p loose s cells F X N HC hpre T hd hu
  obtain ⟨o2, o1, rfl, ho2, ho1⟩ := HC.two
  replace ho1 : o1.data = .cell (some (.str ⟨l.toArray⟩ t)) := ho1
  replace ho2 : o2.data = .cell (some (.int (wd : Nat) u)) := ho2
  replace F : Fr g L s.heap (fun y => if y = Str.ofString "unicode_version" then some (Value.str (Str.ofString "auto") _) else none) := F
  replace N : News g L s.heap [(L + 1 + 1, o2), (L + 1, o1)] := N
  clear HC hpre
  have hlen : 1 ≤ l.length := List.length_pos_iff.mpr hne
  have hT1 := total_le l
  have hpl := pcs_length l
  show wpAny _ _ _ _ _ _
  k_fold
  k_steps
  refine Halt.out ?_
  rename_i T' sl vs k1 kn uu tl h7 tk2 hdat hz ho hoT h6 h5 h4 tka h3 ln h2 lt h1' h0 F2 N2
  have hvl : vs.length = (pcs l).length := by rw [hdat.length, List.length_map]
  have htl : ∀ p ∈ tl, p.1 ≠ ln := all_lt lt.2.2.2.2
  have hoff : ∀ p ∈ (sl, listOf vs.toArray k1) :: (L + 1 + 1, o2) :: (L + 1, o1) :: tl, p.1 ≠ ln := List.forall_mem_cons.mpr ⟨Nat.ne_of_lt lt.2.1, List.forall_mem_cons.mpr ⟨Nat.ne_of_lt lt.2.2.1, List.forall_mem_cons.mpr ⟨Nat.ne_of_lt lt.2.2.2.1, htl⟩⟩⟩
  clear lt
  refine For_led ?_
  k_steps
  refine iter_list (l := sl) (items := vs.toArray) (k := k1) (ChJ l wd s ((sl, listOf vs.toArray k1) :: (L + 1 + 1, o2) :: (L + 1, o1) :: tl) ln) rfl F2 (cb_drop N2 (by walk_at "news in")) ⟨[], _, 0, 0, 0, [], _, _, rfl, rfl, rfl, rfl, rfl, DatAll.nil, ChI.start hne⟩ ?_ (.inr ⟨⟨_, _, _, rfl⟩, ?_⟩) ?_ ?_
  · rintro j m rest gs h ⟨vs2, kk, pos, o, used, done, uo, uu, rfl, rfl, _⟩ F3 N3
    exact (N3 _ (.tail _ (.head _))).1
  · intro j v hv
    obtain ⟨q, a, kn, t1, t2, t3, e1, rfl, e3⟩ := dat_at hdat (by simpa using hv)
    exact ⟨_, rfl⟩
  · rintro j v I m rest gs oI h tk hv ⟨vs2, kk, pos, o, used, done, uo, uu, rfl, rfl, hm1, hm2, hm3, hds, hC⟩ hr F3 N3
    obtain ⟨⟨st, en, sz⟩, a, kn, t1, t2, t3, e1, rfl, e3⟩ := dat_at hdat (by simpa using hv)
    have hb := pcs_bound (List.mem_of_getElem? e1)
    replace hb : st ≤ en ∧ en ≤ l.length := hb
    have hpos : pos = st := hC.at_ _ e1
    have hop := hC.op
    have hdl := hC.dl
    have hjl : j < (pcs l).length := by
      rcases Nat.lt_or_ge j (pcs l).length with h | h
      · exact h
      · rw [List.getElem?_eq_none h] at e1; cases e1
    have hos : o ≤ st := by omega
    have hsl : st ≤ l.length := by omega
    have hv2 : vs2.length < 2000 := by rw [hds.length, List.length_map]; omega
    replace F3 := fr_kn _ F3 (kn_cons hm1 (kn_cons hm2 (kn_cons hm3 kn_nil)))
    replace N3 : News g L h ((a, tup3 (st : Nat) (en : Nat) (sz : Nat) t1 t2 t3 kn) :: (I, oI) :: (ln, listOf vs2.toArray kk) :: (sl, listOf vs.toArray k1) :: (L + 1 + 1, o2) :: (L + 1, o1) :: tl) := List.forall_mem_cons.mpr ⟨N3 _ (.tail _ (.tail _ (.tail _ (.tail _ (.tail _ e3))))), N3⟩
    have hln : ln ≠ I := hr _ (.head _)
    have hnl : I ≠ ln := Ne.symm hln
    have hal : a ≠ ln := htl _ e3
    have hrb := fun p hp => hr p (List.Mem.tail _ hp)
    clear F2 N2 hm1 hm2 hm3
    by_cases hov : wd < used + sz
    · have hoI : decide (((used : Nat) : Int) + ((sz : Nat) : Int) > ((wd : Nat) : Int)) = true := decide_eq_true (by omega)
      show wpAny _ _ _ _ _ _
      k_fold
      k_steps
      exact ch_next (by assumption) (by assumption) (by walk_at "news in") (List.forall_mem_cons.mpr ⟨hln, hrb⟩) (by first | exact rfl | with_unfolding_all exact rfl) (by first | exact rfl | with_unfolding_all exact rfl) (by first | exact rfl | with_unfolding_all exact rfl) en st sz (done ++ [(l.drop o).take (st - o)]) (by omega) rfl (dats_str hds) (hC.over hw1 e1 hov)
    · have hoI : decide (((used : Nat) : Int) + ((sz : Nat) : Int) > ((wd : Nat) : Int)) = false := decide_eq_false (by omega)
      show wpAny _ _ _ _ _ _
      k_fold
      k_steps
      exact ch_next (by assumption) (by assumption) (by walk_at "news in") (List.forall_mem_cons.mpr ⟨hln, hrb⟩) (by first | exact rfl | with_unfolding_all exact rfl) (by first | exact rfl | with_unfolding_all exact rfl) (by first | exact rfl | with_unfolding_all exact rfl) en o (used + sz) done (by omega) rfl hds (hC.under e1 (by omega))
  · rintro m rest gs h tk ⟨vs2, kk, pos, o, used, done, uo, uu, rfl, rfl, hm1, hm2, hm3, hds, hC⟩ F3 N3
    have hop := hC.op
    have hpl2 := hC.pl
    have hol : o ≤ l.length := by omega
    have hdl := hC.dl
    have hje : vs.toArray.size = (pcs l).length := by rw [List.size_toArray, hvl]
    have hv2 : vs2.length < 2000 := by rw [hds.length, List.length_map]; omega
    replace F3 := fr_kn _ F3 (kn_cons hm1 (kn_cons hm2 (kn_cons hm3 kn_nil)))
    clear F2 N2 hm1 hm2 hm3
    show wpAny _ _ _ _ _ _
    k_fold
    k_steps
    · have hu0 : used ≠ 0 := by omega
      refine RetP.intro [(ln, _)] (by assumption) (by assumption) (by walk_at "news in") ⟨ln, _, _, rfl, .head _, ?_⟩
      rw [← hC.stop hje hu0]
      exact dats_str hds
    · have hu0 : used = 0 := by omega
      refine RetP.intro [(ln, _)] (by assumption) (by assumption) (by walk_at "news in") ⟨ln, _, _, rfl, .head _, ?_⟩
      rw [← hC.stop0 hje hu0]
      exact hds
section
variable {prog : Program} {w : World} {A : Around} {E : Value → Shared → Prop} {s : Shared} {h₀ : Heap} {L : Addr} {m : Str → Option Value} {news : List (Addr × Obj)} {t u ui uj : Tok} {l : List Nat} {Q : Value → Shared → Prop} {value slice : PySem.Expr}
theorem cut_by {i d : Nat} (F : Fr h₀ L s.heap m) (N : News h₀ L s.heap news) (hl : l.length < 2 ^ 20) (hi : i ≤ l.length) (h : ∀ h' t' k, Fr h₀ L h' m → News h₀ L h' news → Q (.str ⟨((l.drop i).take d).toArray⟩ t') { s with heap := h', toks := k })
    (hs : subscripted slice false (.str ⟨l.toArray⟩ t) (.ref s.heap.objs.size) = operate [.ref s.heap.objs.size, .str ⟨l.toArray⟩ t] (getItem (.str ⟨l.toArray⟩ t) (.ref s.heap.objs.size)) := by with_unfolding_all rfl)
    (ht : ∀ r, letTemporaryGo value (.str ⟨l.toArray⟩ t) r = pure () := by intro _; with_unfolding_all rfl) :
    wpAny (model prog w) A (subscriptTail value slice (.str ⟨l.toArray⟩ t) (.ref s.heap.objs.size)) Q E { s with heap := s.heap.push { cls := .type "slice", data := .fields #[.int (i : Nat) ui, .int ((i : Nat) + (d : Nat)) uj, .none] } } :=
  slice_strN_ss (hsz := len_le hl) F N (fun h' t' k a b => by
    have e : ((i : Nat) : Int) + ((d : Nat) : Int) = ((i + d : Nat) : Int) := by omega
    rw [e, slice_by hi]; exact h h' t' k a b) hs ht
end
local macro_rules | `(tactic| walk_at "subscriptTail Name Slice str ref") => `(tactic| (k_here; (with_reducible show wpAny _ _ (subscriptTail _ (Expr.Slice (some _) (some _) none _) (Value.str ⟨List.toArray _⟩ _) _) _ _ _); (with_reducible rename Fr _ _ _ _ => F'); (with_reducible rename News _ _ _ _ => N'); k_dflt (refine' cut_by (s := ⟨_, _, _, _, _⟩) F' N' ?z ?i ?_ ?s ?t; (case s => with_unfolding_all rfl); (case t => intro _; with_unfolding_all rfl); (case z => omega); (case i => first | assumption | omega)); intro _ _ _ _ _; (try k_sweep)))

theorem chunks_succ (l : List Nat) (w i : Nat) : chunks l w 0 (i + 1) = chunks l w 0 i ++ [(l.drop (i * w)).take w] := by
  unfold chunks
  rw [List.range'_1_concat, List.map_append]
  simp
theorem chop_gives (w : World) {l : List Nat} (hl : ∀ c ∈ l, Sign c) (hn : l.length < 1000) (hne : l ≠ []) {wd : Nat} (hw1 : 2 ≤ wd) (hw2 : wd < 100) {t u : Tok} : Raw PySem.Challenge.rw_fe0297_01.row.prog w (hd.heap_39 w.params) 238 [] [.str ⟨l.toArray⟩ t, .int (wd : Nat) u] 40 140
    (ChopOut l wd) := by
  by_cases h1 : l.all one = true
  rotate_left
  · exact chop_loop w hl hn hne (by simpa using h1) hw1 hw2
  refine raw_ofC [(Str.ofString "text", .str ⟨l.toArray⟩ t), (Str.ofString "width", .int (wd : Nat) u), (Str.ofString "unicode_version", .str (Str.ofString "auto") _)] (by k_is) (by k_is) (fun s X => binds_K X rfl (by k_is) rfl rfl rfl) (fun n => List.forall_mem_cons.mpr ⟨.inr ⟨rfl, rfl⟩, List.forall_mem_cons.mpr ⟨.inr ⟨rfl, rfl⟩, List.forall_mem_cons.mpr ⟨.inl rfl, fun _ h => nomatch h⟩⟩⟩) (by decide) rfl rfl rfl ?_
  intro dp un gd outer g L mg mb p loose s cells F X N HC hpre T hd hu
  obtain ⟨o2, o1, rfl, ho2, ho1⟩ := HC.two
  replace ho1 : o1.data = .cell (some (.str ⟨l.toArray⟩ t)) := ho1
  replace ho2 : o2.data = .cell (some (.int (wd : Nat) u)) := ho2
  replace F : Fr g L s.heap (fun y => if y = Str.ofString "unicode_version" then some (Value.str (Str.ofString "auto") _) else none) := F
  replace N : News g L s.heap [(L + 1 + 1, o2), (L + 1, o1)] := N
  clear HC hpre
  have hlen : 1 ≤ l.length := List.length_pos_iff.mpr hne
  have hone : total l = l.length := total_one h1
  have hsz := @size_pos l.length wd (by omega) hlen
  have hsm := @small_pos l.length wd (by omega) (by omega) (by omega)
  show wpAny _ _ _ _ _ _
  k_fold
  k_steps
  refine Halt.out ?_
  rename Fr _ _ _ _ => F2
  rename News _ _ _ _ => N2
  refine comp_range F2 (by with_unfolding_all rfl) (by decide) rfl (by decide) rfl ?_
  k_steps
  rename Fr _ _ _ _ => F3
  rename News _ _ _ _ => N3
  have hdiv := Nat.div_le_self (l.length - 1) wd
  refine ⟨_, _, _, _, _, _, _, (l.length - 1) / wd + 1, [(L + 1 + 1, o2), (L + 1, o1)], fun i ys news gs => news = [(L + 1 + 1, o2), (L + 1, o1)] ∧ gs = s.gens ∧ DatAll [] ys ((chunks l wd 0 i).map ldat), rfl, rfl, F3, N3, by assumption, hsm, hsz, by rw [sizeLine_eq]; omega, ⟨rfl, rfl, DatAll.nil⟩, ?_, ?_⟩
  · clear F3 N3
    rintro i v ys news gs I oI C oC D m₂ h tk hi ⟨t9, rfl⟩ ⟨rfl, rfl, hds⟩ hC hm F N off ne hC0 hCL
    have e : (0 + (i : Int) * (wd : Int)) = ((i * wd : Nat) : Int) := by rw [Int.zero_add, Int.natCast_mul]
    rw [e] at hm
    have hle : i * wd ≤ l.length := by
      have h1 : i * wd ≤ (l.length - 1) / wd * wd := Nat.mul_le_mul_right _ (by omega)
      have h2 := Nat.div_mul_le_self (l.length - 1) wd
      omega
    show wpAny _ _ _ _ _ _
    k_fold
    k_steps
    refine CompNext.intro [(L + 1 + 1, o2), (L + 1, o1)] (by assumption) (by assumption) (by walk_at "news in") off ⟨rfl, rfl, ?_⟩
    rw [chunks_succ]
    exact dats_str hds
  · rintro D ys news gs h tk ⟨rfl, rfl, hds⟩ F N off
    clear F3 N3
    k_steps
    refine RetP.intro [(D, _)] F N (by walk_at "news in") ⟨D, ys, _, rfl, .head _, ?_⟩
    have e : chopped l wd = chunks l wd 0 ((l.length - 1) / wd + 1) := by
      unfold chopped
      rw [if_neg (by omega), chop_one h1 (by omega) hne]
    rw [e]
    exact hds
end Mine
namespace Mine
open PySem PySem.Spec PySem.Calls PyProof.Rows PySem.W
local macro_rules | `(tactic| walk_at "news in") => `(tactic| first | (with_reducible exact sub_self) | (with_reducible exact sub_nil) | ((with_reducible refine sub_cons ?a1 ?a2); (case a1 => k_mem); (case a2 => walk_at "news in")) | ((with_reducible refine sub_app ?a1 ?a2); (case a1 => walk_at "news in"); (case a2 => walk_at "news in")) | ((with_reducible refine sub_skip ?_); walk_at "news in") | ((with_reducible refine sub_appL ?_); walk_at "news in") | ((with_reducible refine sub_appR ?_); walk_at "news in"))
local macro_rules | `(tactic| k_room) => `(tactic| ktr_room)
local macro_rules | `(tactic| walk_at "my room") => `(tactic| ((try dsimp only); first | ktr_room | omega))
local macro_rules | `(tactic| walk_at "my units") => `(tactic| ((try dsimp only); first | ktr_units | omega))
local macro_rules | `(tactic| walk_at "my given") => `(tactic| ((case hh => first | exact rfl | assumption); (case F => k_asm); (case X => k_asm); (case N => k_asm); (case T => k_asm); (case hs => walk_at "news in"); (case hd => walk_at "my room"); (case hu => walk_at "my units")))
local macro_rules | `(tactic| walk_at "getMethod type:tuple") => `(tactic| (k_here; refine' method_type ?F ?X ?m (by decide +kernel) ?e ?h ?_; (case F => k_asm); (case X => k_asm); (case m => exact meta_tuple'); (case e => k_dflt k_is); (case h => k_handed)))
local macro_rules | `(tactic| walk_at "ForPost") => `(tactic| dsimp only [ForPost])
local macro_rules | `(tactic| walk_at "WhilePost") => `(tactic| dsimp only [WhilePost])
local macro_rules | `(tactic| walk_at "knows") => `(tactic| first | exact kn_nil | (refine kn_cons ?a1 ?a2; (case a1 => first | with_reducible assumption | exact rfl | with_unfolding_all exact rfl); (case a2 => walk_at "knows")))
local macro_rules | `(tactic| walk_at "WhileEnd") => `(tactic| dsimp only [WhileEnd])
local macro_rules | `(tactic| walk_at "eval Dict") => `(tactic| (k_here; k_dflt (refine' kdn_str ?q ?F ?N ?b ?a ?l ?e ?n ?_; (case q => rfl); (case F => k_asm); (case N => first | k_asm | exact News.nil); (case b => exact TopRead.nolimit (by k_asm)); (case a => rfl); (case l => rfl); (case e => exact List.cons_ne_nil _ _); (case n => exact Nat.le_of_ble_eq_true rfl)); intro d' h' o' F' N' l1 lo' hd'; (try k_lt l1)))
theorem fill11 : ∀ (w : World) (h : Heap), (hd.heap_39 w.params).In h → PySem.Challenge.rw_fe0297_01.row.prog = PySem.Challenge.rw_fe0297_01.row.prog → True := by
  k_fill
  intros
  trivial

def Made (c : Nat) : Prop := c = 97 ∨ c = 12354 ∨ c = 769 ∨ c = 35 ∨ c = 65039 ∨ c = 8205 ∨ c = 10084 ∨ c = 128512
/-- the law's own table of widths -/
def SizesDict (w : World) (o : Obj) : Prop := ∃ kvs, o.IsDictOf (strKind PySem.Challenge.rw_fe0297_01.row.prog w) kvs ∧ ∀ c, Made c → ∃ t, valueAt kvs (⟨#[c]⟩ : Str) = some (.int (wid c : Nat) t)
theorem sizes_at (t1 t2 t3 t4 t5 t6 t7 t8 : Tok) : ∀ c, Made c → ∃ t, valueAt [(Str.ofString "a", Value.int 1 t1), (Str.ofString "あ", Value.int 2 t2), (Str.ofString "́", Value.int 0 t3), (Str.ofString "#", Value.int 1 t4), (Str.ofString "️", Value.int 0 t5), (Str.ofString "‍", Value.int 0 t6), (Str.ofString "❤", Value.int 1 t7), (Str.ofString "😀", Value.int 2 t8)] (⟨#[c]⟩ : Str) = some (.int (wid c : Nat) t) := by
  intro c hc
  rcases hc with rfl | rfl | rfl | rfl | rfl | rfl | rfl | rfl <;> exact ⟨_, by with_unfolding_all rfl⟩
theorem sizes_gives (w : World) : Raw PySem.Challenge.rw_fe0297_01.row.prog w (hd.heap_39 w.params) 245 [] [] 6 40 (Keep [] fun tl r => ∃ D o, r = .ref D ∧ (D, o) ∈ tl ∧ SizesDict w o) := by
  refine raw_of [] (by k_is) (by k_is) (fun s X => BindsTo.of_eq rfl) (fun _ h => nomatch h) (by decide) rfl rfl rfl ?_
  intro dp un gd outer g L mg mb p loose s F X N T hd hu
  replace F : Fr g L s.heap (fun y => List.lookup y []) := F
  show wpAny _ _ _ _ _ _
  k_fold
  k_steps
  rename Obj.IsDictOf _ _ (strPairs _) => hD
  refine RetP.intro [(_, _)] (by assumption) (by assumption) (by walk_at "news in") ⟨_, _, rfl, .head _, _, hD, sizes_at _ _ _ _ _ _ _ _⟩

section
variable {prog : Program} {w : World} {A : Around} {E : Value → Shared → Prop} {s : Shared} {h₀ : Heap} {L D : Addr} {m : Str → Option Value} {news : List (Addr × Obj)} {vs : List Value} {n : Nat} {t u : Tok} {Q : Value → Shared → Prop} {value slice : PySem.Expr}
theorem item_same {v : Value} {i : Nat} (N : News h₀ L s.heap news) (hm : (D, listOf vs.toArray n) ∈ news) (hi : i < 2 ^ 20) (hx : vs[i]? = some v) (h : Q v s)
    (hs : subscripted slice false (.ref D) (.int ((i : Nat) + 1 - 1) u) = operate [.ref D, .int ((i : Nat) + 1 - 1) u] (getItem (.ref D) (.int ((i : Nat) + 1 - 1) u)) := by with_unfolding_all rfl) :
    wpAny (model prog w) A (subscriptTail value slice (.ref D) (.int ((i : Nat) + 1 - 1) u)) Q E s := by
  have e : (((i : Nat) : Int) + 1 - 1) = ((i : Nat) : Int) := by omega
  refine item_litK (PySem.IsL.isList (n := n) (N _ hm).1) (by omega) (by omega) (by rw [e]; simpa using hx) h hs
theorem mod_nat {a : Int} {c : Nat} (hc : 0 < c) (hc2 : c < 2 ^ 12) (h : ∀ (v : Nat) u tk, v < c → Q (.int (v : Nat) u) { s with toks := tk }) :
    wpAny (model prog w) A (binaryOp .Mod (.int a t) (.int (c : Nat) u)) Q E s := by
  have hc0 : ((c : Nat) : Int) ≠ 0 := by omega
  have h1 := Int.emod_nonneg a hc0
  have h2 := Int.emod_lt_of_pos a (show (0 : Int) < (c : Nat) by omega)
  refine mod_int' hc0 ?_
  rw [Int.fmod_eq_emod_of_nonneg _ (by omega)]
  have e : a % ((c : Nat) : Int) = (((a % ((c : Nat) : Int)).toNat : Nat) : Int) := by omega
  rw [e]
  exact h _ _ _ (by omega)
end
local macro_rules | `(tactic| walk_at "call builtin:len") => `(tactic| (k_here; (with_reducible show wpAny _ _ (call (Value.builtin "len") [Value.ref _]) _ _ _); k_dflt (refine' len_l ?N ?m ?z ?_; (case N => k_asm); (case m => k_mem); (case z => first | assumption | omega); k_whole); intro u' tk'))
local macro_rules | `(tactic| walk_at "subscriptTail Subscript Name Constant BinOp ref int") => `(tactic| (k_here; (with_reducible show wpAny _ _ (subscriptTail _ _ (Value.ref _) (Value.int _ _)) _ _ _); k_dflt (refine' item_same ?N ?m ?i ?x ?_ ?s; (case N => k_asm); (case m => k_mem); (case i => omega); (case x => assumption); (case s => with_unfolding_all rfl); k_whole)))
local macro_rules | `(tactic| walk_at "binaryOp Mod int int") => `(tactic| (k_here; k_dflt (refine' mod_nat ?a ?b ?_; (case a => omega); (case b => omega); k_whole); intro v' u' tk' hv'))

theorem next_gives (w : World) {st sc : Addr} (hne : sc ≠ st) {vs : List Value} {n k p lim : Nat} {t u : Tok} (hvs : ∀ v ∈ vs, ∃ i t, v = .int i t) (hlen : vs.length ≤ 60) (hp : p < 1000) (hl1 : 1 ≤ lim) (hl2 : lim < 100) :
    Raw PySem.Challenge.rw_fe0297_01.row.prog w (hd.heap_39 w.params) 252 [(st, listOf [Value.ref sc, .int (p : Nat) t].toArray n), (sc, listOf vs.toArray k)] [.ref st, .int (lim : Nat) u] 6 40
      (fun gs nw gs' r => gs' = gs ∧ ∃ t', nw = [(st, listOf [Value.ref sc, .int ((p + 1 : Nat) : Int) t'].toArray n), (sc, listOf vs.toArray k)] ∧ ∃ v u', r = .int ((v : Nat) : Int) u' ∧ v < lim) := by
  refine raw_of [(Str.ofString "state", .ref st), (Str.ofString "limit", .int (lim : Nat) u)] (by k_is) (by k_is) (fun s X => BindsTo.of_eq rfl) (locs rfl) (by decide) rfl rfl rfl ?_
  intro dp un gd outer g L mg mb p' loose s F X N T hd hu
  replace F : Fr g L s.heap (fun y => List.lookup y [(Str.ofString "limit", .int (lim : Nat) u), (Str.ofString "state", .ref st)]) := F
  by_cases hpl : vs.length < p + 1
  · have hpI : decide (((p : Nat) : Int) + 1 > ((vs.length : Nat) : Int)) = true := decide_eq_true (by omega)
    show wpAny _ _ _ _ _ _
    k_fold
    k_steps
    exact RetP.introG _ (by assumption) (by assumption) (by walk_at "news in") ⟨rfl, _, rfl, 0, _, rfl, hl1⟩
  · have hpI : decide (((p : Nat) : Int) + 1 > ((vs.length : Nat) : Int)) = false := decide_eq_false (by omega)
    obtain ⟨v, hv⟩ : ∃ v, vs[p]? = some v := ⟨_, List.getElem?_eq_getElem (by omega)⟩
    obtain ⟨i, t9, rfl⟩ := hvs v (List.mem_of_getElem? hv)
    show wpAny _ _ _ _ _ _
    k_fold
    k_steps
    exact RetP.introG _ (by assumption) (by assumption) (by walk_at "news in") ⟨rfl, _, rfl, _, _, rfl, by assumption⟩
end Mine
namespace Mine
open PySem PySem.Spec PySem.Calls PyProof.Rows PySem.W
local macro_rules | `(tactic| walk_at "news in") => `(tactic| first | (with_reducible exact sub_self) | (with_reducible exact sub_nil) | ((with_reducible refine sub_cons ?a1 ?a2); (case a1 => k_mem); (case a2 => walk_at "news in")) | ((with_reducible refine sub_app ?a1 ?a2); (case a1 => walk_at "news in"); (case a2 => walk_at "news in")) | ((with_reducible refine sub_skip ?_); walk_at "news in") | ((with_reducible refine sub_appL ?_); walk_at "news in") | ((with_reducible refine sub_appR ?_); walk_at "news in"))
local macro_rules | `(tactic| k_room) => `(tactic| ktr_room)
local macro_rules | `(tactic| walk_at "my room") => `(tactic| ((try dsimp only); first | ktr_room | omega))
local macro_rules | `(tactic| walk_at "my units") => `(tactic| ((try dsimp only); first | ktr_units | omega))
local macro_rules | `(tactic| walk_at "my given") => `(tactic| ((case hh => first | exact rfl | assumption); (case F => k_asm); (case X => k_asm); (case N => k_asm); (case T => k_asm); (case hs => walk_at "news in"); (case hd => walk_at "my room"); (case hu => walk_at "my units")))
local macro_rules | `(tactic| walk_at "getMethod type:tuple") => `(tactic| (k_here; refine' method_type ?F ?X ?m (by decide +kernel) ?e ?h ?_; (case F => k_asm); (case X => k_asm); (case m => exact meta_tuple'); (case e => k_dflt k_is); (case h => k_handed)))
local macro_rules | `(tactic| walk_at "ForPost") => `(tactic| dsimp only [ForPost])
local macro_rules | `(tactic| walk_at "WhilePost") => `(tactic| dsimp only [WhilePost])
local macro_rules | `(tactic| walk_at "knows") => `(tactic| first | exact kn_nil | (refine kn_cons ?a1 ?a2; (case a1 => first | with_reducible assumption | exact rfl | with_unfolding_all exact rfl); (case a2 => walk_at "knows")))
local macro_rules | `(tactic| walk_at "WhileEnd") => `(tactic| dsimp only [WhileEnd])
local macro_rules | `(tactic| k_ne) => `(tactic| (refine neN ?_; (try dsimp only); (repeat (with_reducible rename _ ∧ _ => hcj; cases hcj)); first | assumption | (refine Ne.symm ?_; assumption) | exact Nat.ne_of_lt (by assumption) | exact Nat.ne_of_gt (by assumption) | ((repeat (with_reducible rename _ ≠ _ => hx9; clear hx9)); omega)))
local macro_rules | `(tactic| walk_at "exec For Name Call cons nil") => `(tactic| refine halt ?_)
local macro_rules | `(tactic| walk_at "exec For Tuple Name cons nil") => `(tactic| refine halt ?_)
local macro_rules | `(tactic| walk_at "exec For Tuple Name cons cons") => `(tactic| refine halt ?_)
local macro_rules | `(tactic| walk_at "call builtin:len") => `(tactic| (k_here; (with_reducible show wpAny _ _ (call (Value.builtin "len") [Value.str ⟨List.toArray _⟩ _]) _ _ _); k_dflt (refine len_sg (by omega) ?_; intro u' tk')))
local macro_rules | `(tactic| walk_at "subscriptTail") => `(tactic| (k_here; (with_reducible show wpAny _ _ (subscriptTail _ _ (Value.str ⟨List.toArray _⟩ _) (Value.int (Nat.cast _) _)) _ _ _); k_dflt (refine item_sg (by omega) (by assumption) ?_; intro u' tk')))
local macro_rules | `(tactic| walk_at "subscriptTail Name Name str int") => `(tactic| (k_here; (with_reducible show wpAny _ _ (subscriptTail _ _ (Value.str ⟨List.toArray _⟩ _) (Value.int (Nat.cast _) _)) _ _ _); k_dflt (refine item_sg (by omega) (by assumption) ?_; intro u' tk')))
local macro_rules | `(tactic| walk_at "subscriptTail") => `(tactic| (k_here; (with_reducible show wpAny _ _ (subscriptTail _ _ (Value.ref _) (Value.int _ _)) _ _ _); k_dflt (refine' item_last ?N ?m ?_ ?s; (case N => k_asm); (case m => k_mem); (case s => with_unfolding_all rfl); k_whole)))
local macro_rules | `(tactic| walk_at "subscriptTail Name UnaryOp ref int") => `(tactic| (k_here; (with_reducible show wpAny _ _ (subscriptTail _ _ (Value.ref _) (Value.int _ _)) _ _ _); k_dflt (refine' item_last ?N ?m ?_ ?s; (case N => k_asm); (case m => k_mem); (case s => with_unfolding_all rfl); k_whole)))
local macro_rules | `(tactic| walk_at "subscriptTail Name Constant ref int") => `(tactic| (k_here; (with_reducible show wpAny _ _ (subscriptTail _ _ (Value.ref _) (Value.int _ _)) _ _ _); k_dflt (refine' item_last ?N ?m ?_ ?s; (case N => k_asm); (case m => k_mem); (case s => with_unfolding_all rfl); k_whole)))
local macro_rules | `(tactic| walk_at "my upd") => `(tactic| first | exact Upd.head (by assumption) | (refine' Upd.tail ?a ?b; (case a => k_ne); (case b => walk_at "my upd")))
local macro_rules | `(tactic| walk_at "setItem ref int") => `(tactic| (k_here; (with_reducible show wpAny _ _ (PySem.setItem (Value.ref _) (Value.int _ _) (Value.ref _)) _ _ _); k_dflt (refine' set_last ?F ?N ?U ?_; (case F => k_asm); (case N => k_asm); (case U => walk_at "my upd"); k_whole); intro h' F' N'; (try k_sweep)))
local macro_rules | `(tactic| walk_at "setItem ref int ref") => `(tactic| (k_here; (with_reducible show wpAny _ _ (PySem.setItem (Value.ref _) (Value.int _ _) (Value.ref _)) _ _ _); k_dflt (refine' set_last ?F ?N ?U ?_; (case F => k_asm); (case N => k_asm); (case U => walk_at "my upd"); k_whole); intro h' F' N'; (try k_sweep)))
local macro_rules | `(tactic| walk_at "call builtin:list.append") => `(tactic| (k_here; (with_reducible show wpAny _ _ (call (Value.builtin _) [Value.ref _, _]) _ _ _); k_dflt (refine' append_l ?F ?N ?U ?_ ?z; (case F => k_asm); (case N => k_asm); (case U => walk_at "my upd"); (case z => first | assumption | (simp; done) | (simp; omega)); k_whole); intro h' F' N'; (try k_sweep)))
local macro_rules | `(tactic| walk_at "truthy ref") => `(tactic| (k_here; (with_reducible show wpAny _ _ (truthy (Value.ref _)) _ _ _); k_dflt (refine' truthy_snoc ?N ?m ?z ?_; (case N => k_asm); (case m => k_mem); (case z => first | assumption | omega); k_whole; intro tk')))
local macro_rules | `(tactic| walk_at "call builtin:len") => `(tactic| (k_here; (with_reducible show wpAny _ _ (call (Value.builtin "len") [Value.ref _]) _ _ _); k_dflt (refine' len_l ?N ?m ?z ?_; (case N => k_asm); (case m => k_mem); (case z => first | assumption | omega); k_whole); intro u' tk'))
local macro_rules | `(tactic| walk_at "eval ListComp") => `(tactic| refine halt ?_)
local macro_rules | `(tactic| walk_at "subscriptTail Name Name ref int") => `(tactic| (k_here; (with_reducible show wpAny _ _ (subscriptTail _ _ (Value.ref _) (Value.int (Nat.cast _) _)) _ _ _); k_dflt (refine' item_nth ?N ?m ?i ?x ?_ ?s; (case N => k_asm); (case m => k_mem); (case i => omega); (case x => assumption); (case s => with_unfolding_all rfl); k_whole)))
theorem fill12 : ∀ (w : World) (h : Heap), (hd.heap_39 w.params).In h → PySem.Challenge.rw_fe0297_01.row.prog = PySem.Challenge.rw_fe0297_01.row.prog → True := by
  k_fill
  intros
  trivial

section
variable {w : World} {A : Around} {E : Value → Shared → Prop} {s : Shared} {h₀ : Heap} {L D a b : Addr} {m mg mb : Str → Option Value} {p : Program} {loose : List Str} {news : List (Addr × Obj)} {vs : List Value} {v : Value} {n k : Nat} {o : Obj} {u : Tok} {Q : Value → Shared → Prop}
theorem sizes_use (hh : A.handled = none) (F : Fr h₀ L s.heap m) (X : (hd.heap_39 w.params).In h₀) (N : News h₀ L s.heap news) (T : TopRead p loose mg mb h₀) (hD : A.depth + 6 < recursionLimit) (hU : A.units + 40 < cLine)
    (h : ∀ D o h' tk, Fr h₀ L h' m → News h₀ L h' ((D, o) :: news) → SizesDict w o → (∀ q ∈ news, @Ne Nat D q.1) → Q (.ref D) { s with heap := h', toks := tk }) :
    wpAny (model PySem.Challenge.rw_fe0297_01.row.prog w) A (call (.ref 245) []) Q E s := by
  refine Raw.use (sizes_gives w) hh F X N T (fun _ h => nomatch h) hD hU ?_
  rintro r nw h' tk' gs' F' N' k ⟨e, tl, rfl, D, o, rfl, hm, hS⟩
  subst e
  have hm' : (D, o) ∈ tl ++ [] := by simpa using hm
  refine h D o h' tk' F' (List.forall_mem_cons.mpr ⟨N' _ hm', fun q hq => ⟨(k q hq (fun h => nomatch h)).1, (N q hq).2⟩⟩) hS fun q hq => (k q hq (fun h => nomatch h)).2 _ hm'
theorem item_size {value slice : PySem.Expr} {c : Nat} (N : News h₀ L s.heap news) (hm : (D, o) ∈ news) (HS : SizesDict w o) (hc : Made c) (h : ∀ t tk, Q (.int (wid c : Nat) t) { s with toks := tk })
    (hs : subscripted slice false (.ref D) (.str ⟨#[c]⟩ u) = operate [.ref D, .str ⟨#[c]⟩ u] (getItem (.ref D) (.str ⟨#[c]⟩ u)) := by with_unfolding_all rfl) :
    wpAny (model PySem.Challenge.rw_fe0297_01.row.prog w) A (subscriptTail value slice (.ref D) (.str ⟨#[c]⟩ u)) Q E s := by
  obtain ⟨kvs, hd, hv⟩ := HS
  obtain ⟨t, e⟩ := hv c hc
  have hD := kda_dict N hm hd
  exact tail_any hD.typeIs slot_dict_getitem.lookup (wpAny_getItem_of (strKind_is _ _ _ _) hD.mapOf e (h _ _)) hs
theorem item_succ {value slice : PySem.Expr} {i : Nat} (N : News h₀ L s.heap news) (hm : (D, listOf vs.toArray n) ∈ news) (hi : i < 2 ^ 20) (hx : vs[i + 1]? = some v) (h : Q v s)
    (hs : subscripted slice false (.ref D) (.int ((i : Nat) + 1) u) = operate [.ref D, .int ((i : Nat) + 1) u] (getItem (.ref D) (.int ((i : Nat) + 1) u)) := by with_unfolding_all rfl) :
    wpAny (model PySem.Challenge.rw_fe0297_01.row.prog w) A (subscriptTail value slice (.ref D) (.int ((i : Nat) + 1) u)) Q E s := by
  have e : (((i : Nat) : Int) + 1) = ((i + 1 : Nat) : Int) := by omega
  refine item_litK (PySem.IsL.isList (n := n) (N _ hm).1) (by omega) (by omega) (by rw [e]; simpa using hx) h hs
theorem cat_l (F : Fr h₀ L s.heap m) (N : News h₀ L s.heap news) (ma : (a, listOf vs.toArray n) ∈ news) (mb : (b, listOf [v].toArray k) ∈ news) (hz : vs.length < 2000)
    (h : ∀ D h', Fr h₀ L h' m → News h₀ L h' ((D, listOf (vs ++ [v]).toArray 0) :: news) → (∀ p ∈ news, p.1 < D) → Q (.ref D) { s with heap := h' }) : wpAny (model PySem.Challenge.rw_fe0297_01.row.prog w) A (binaryOp .Add (.ref a) (.ref b)) Q E s :=
  kmk_add_lit F N (PySem.IsL.isList (n := n) (N _ ma).1) (PySem.IsL.isList (n := k) (N _ mb).1) (by simp) h (by rw [sizeLine_eq]; simp; omega)
end
local macro_rules | `(tactic| walk_at "call ref") => `(tactic| (k_here; (with_reducible show wpAny _ _ (call (Value.ref 245) _) _ _ _); k_dflt (refine' sizes_use (w := _) ?hh ?F ?X ?N ?T ?hd ?hu ?_; (case hh => first | exact rfl | assumption); (case F => k_asm); (case X => k_asm); (case N => k_asm); (case T => k_asm); (case hd => walk_at "my room"); (case hu => walk_at "my units"); k_whole; intro x' o' h' tk' F' N' hS' hxn'; (try simp only [List.forall_mem_cons, List.not_mem_nil, false_implies, implies_true, and_true] at hxn'); (try k_sweep))))
local macro_rules | `(tactic| walk_at "subscriptTail Name BinOp ref int") => `(tactic| (k_here; (with_reducible show wpAny _ _ (subscriptTail _ _ (Value.ref _) (Value.int _ _)) _ _ _); k_dflt (refine' item_succ ?N ?m ?i ?x ?_ ?s; (case N => k_asm); (case m => k_mem); (case i => omega); (case x => assumption); (case s => with_unfolding_all rfl); k_whole)))
local macro_rules | `(tactic| walk_at "my off") => `(tactic| first | assumption | (refine List.forall_mem_cons.mpr ⟨?_, ?_⟩; (rotate_left; walk_at "my off"); k_ne))
local macro_rules | `(tactic| walk_at "my upd") => `(tactic| first | (refine' Upd.head ?a; (case a => walk_at "my off")) | (refine' Upd.tail ?a ?b; (case a => k_ne); (case b => walk_at "my upd")))
local macro_rules | `(tactic| walk_at "my updF") => `(tactic| first | (refine' UpdF.head ?a; (case a => walk_at "my off")) | (refine' UpdF.tail ?a ?b; (case a => k_ne); (case b => walk_at "my updF")))
local macro_rules | `(tactic| walk_at "storeName") => `(tactic| (k_here; k_dflt (refine' storeX_C ?F ?N ?c ?U ?d ?_ ?a ?b; (case a => rfl); (case b => rfl); (case F => k_asm); (case N => k_asm); (case c => rfl); (case U => walk_at "my updF"); (case d => assumption); k_whole; intro h' o' F' N' d'; (try dsimp only at N'); (try k_sweep))))
local macro_rules | `(tactic| walk_at "subscriptTail Call") => `(tactic| (k_here; (with_reducible show wpAny _ _ (subscriptTail _ _ (Value.ref _) (Value.str ⟨#[_]⟩ _)) _ _ _); k_dflt (refine' item_size ?N ?m ?HS ?hc ?_ ?s; (case HS => assumption); (case hc => assumption); (case N => k_asm); (case m => k_mem); (case s => with_unfolding_all rfl); k_whole; intro t' tk')))
local macro_rules | `(tactic| walk_at "binaryOp Add ref ref") => `(tactic| (k_here; k_dflt (refine' cat_l ?F ?N ?a ?b ?z ?_; (case F => k_asm); (case N => k_asm); (case a => k_mem); (case b => k_mem); (case z => first | assumption | omega); k_whole); intro D' h' F' N' l1; (try k_lt l1); (try k_sweep)))
theorem str1_eq {c d : Nat} {lit : String} (e : Str.ofString lit = ⟨#[d]⟩) (h : c = d) : ((⟨#[c]⟩ : Str) == Str.ofString lit) = true := by rw [e, h]; exact beq_self_eq_true _
theorem str1_ne {c d : Nat} {lit : String} (e : Str.ofString lit = ⟨#[d]⟩) (h : c ≠ d) : ((⟨#[c]⟩ : Str) == Str.ofString lit) = false := by
  rw [e]
  exact beq_eq_false_iff_ne.mpr fun q => h (by simpa using q)
theorem any_l {prog : Program} {w : World} {A : Around} {E : Value → Shared → Prop} {s : Shared} {h₀ : Heap} {L D : Addr} {m : Str → Option Value} {news : List (Addr × Obj)} {ys : List Value} {bs : List Bool} {Q : Value → Shared → Prop} (F : Fr h₀ L s.heap m) (N : News h₀ L s.heap news) (hm : (D, LCg.lst ys) ∈ news) (hh : A.handled = none) (hb : LSm.BoolsAre ys bs)
    (h : ∀ h' tk, Fr h₀ L h' m → News h₀ L h' news → Q (.bool (bs.any id)) { s with heap := h', toks := tk }) : wpAny (model prog w) A (call (.builtin "any") [.ref D]) Q E s :=
  LSm.any_bools F N hh ⟨_, (N _ hm).1, rfl, _, rfl⟩ hb h
local macro_rules | `(tactic| walk_at "call builtin:any") => `(tactic| refine halt ?_)
def idat (n : Nat) : Dat := .int (n : Nat)
theorem dats_int {bs : List Nat} {vb : List Value} {i : Nat} {t : Tok} (h : DatAll [] vb (bs.map idat)) : DatAll [] (vb ++ [.int (i : Nat) t]) ((bs ++ [i]).map idat) := by
  rw [List.map_append]
  exact h.append (DatAll.one (DatIn.int _ _))
/-- the first loop of _law_pieces -/
def LpJ (l : List Nat) (t : Tok) (s : Shared) (base : List (Addr × Obj)) (bg sl : Addr) (i : Nat) (m : Str → Option Value) (rest : List (Addr × Obj)) (gs : Array GenState) : Prop :=
  ∃ (vb vs : List Value) (kb ks : Nat) (taken : Int) (tt : Tok) (flag : Bool) (bs ss : List Nat), gs = s.gens ∧ rest = (bg, listOf vb.toArray kb) :: (sl, listOf vs.toArray ks) :: base ∧
    Knows [(Str.ofString "begins", .ref bg), (Str.ofString "selectors", .ref sl), (Str.ofString "taken", .int taken tt), (Str.ofString "made", .str ⟨l.toArray⟩ t)] m ∧ DatAll [] vb (bs.map idat) ∧ DatAll [] vs (ss.map idat) ∧ ScI l i flag bs ss ∧ taken ≤ i ∧ (((i : Nat) : Int) == taken) = flag
theorem lp_next {l : List Nat} {t : Tok} {s : Shared} {base : List (Addr × Obj)} {g h' : Heap} {L I bg sl : Addr} {oI : Obj} {m' : Str → Option Value} {nw : List (Addr × Obj)} {vb vs : List Value} {kb ks tk i : Nat} {taken : Int} {tt : Tok}
    (F : Fr g L h' m') (N : News g L h' nw) (hs : ∀ p ∈ (I, oI) :: (bg, listOf vb.toArray kb) :: (sl, listOf vs.toArray ks) :: base, p ∈ nw) (hr : ∀ p ∈ (bg, listOf vb.toArray kb) :: (sl, listOf vs.toArray ks) :: base, p.1 ≠ I)
    (hk : Knows [(Str.ofString "begins", .ref bg), (Str.ofString "selectors", .ref sl), (Str.ofString "taken", .int taken tt), (Str.ofString "made", .str ⟨l.toArray⟩ t)] m') (flag : Bool) (bs ss : List Nat) (hb : DatAll [] vb (bs.map idat)) (hv : DatAll [] vs (ss.map idat)) (hS : ScI l (i + 1) flag bs ss)
    (ht : taken ≤ ((i + 1 : Nat) : Int)) (hf : (((i + 1 : Nat) : Int) == taken) = flag) : ForNext g L I oI (LpJ l t s base bg sl (i + 1)) s.drawn s.os ⟨h', s.gens, s.drawn, tk, s.os⟩ :=
  ForNext.intro _ F N hs hr ⟨vb, vs, kb, ks, taken, tt, flag, bs, ss, rfl, rfl, hk, hb, hv, hS, ht, hf⟩
theorem dat_int_at {vs : List Value} {bs : List Nat} {k b : Nat} (h : DatAll [] vs (bs.map idat)) (e : bs[k]? = some b) : ∃ t, vs[k]? = some (.int (b : Nat) t) := by
  have hk : k < bs.length := by
    rcases Nat.lt_or_ge k bs.length with h | h
    · exact h
    · rw [List.getElem?_eq_none h] at e; cases e
  obtain ⟨v, e1, e2⟩ := h.get (k := k) (by rw [List.length_map]; exact hk)
  rw [List.getElem_map, show bs[k] = b from by rw [List.getElem?_eq_getElem hk] at e; exact Option.some.inj e] at e2
  unfold idat at e2
  cases e2
  exact ⟨_, e1⟩
/-- the second loop of _law_pieces -/
def LqJ (l : List Nat) (t : Tok) (s : Shared) (bd sl pl L : Addr) (vbd vs : List Value) (ks : Nat) (i : Nat) (m : Str → Option Value) (rest : List (Addr × Obj)) (gs : Array GenState) : Prop :=
  ∃ (vp : List Value) (kp : Nat) (oc1 oc2 : Obj) (w1 w2 : Option Value) (tl2 : List (Addr × Obj)), gs = s.gens ∧ oc1.data = .cell w1 ∧ oc2.data = .cell w2 ∧ rest = (pl, listOf vp.toArray kp) :: (L + 1 + 1, oc2) :: (L + 1, oc1) :: (bd, listOf vbd.toArray 0) :: (sl, listOf vs.toArray ks) :: tl2 ∧
    Knows [(Str.ofString "bounds", .ref bd), (Str.ofString "selectors", .ref sl), (Str.ofString "pieces", .ref pl), (Str.ofString "made", .str ⟨l.toArray⟩ t)] m ∧ DatAll tl2 vp (((pcs l).take i).map sdat) ∧ (∀ p ∈ tl2, p.1 ≠ pl ∧ p.1 ≠ L + 1 ∧ p.1 ≠ L + 1 + 1)
theorem n2w_any (c : Nat) : ([Str.ofString "#", Str.ofString "❤"].any fun x => x == (⟨#[c]⟩ : Str)) = n2w c := by
  have e1 : Str.ofString "#" = ⟨#[35]⟩ := by decide
  have e2 : Str.ofString "❤" = ⟨#[10084]⟩ := by decide
  rw [e1, e2]
  rw [Bool.eq_iff_iff]
  unfold n2w
  simp only [List.any_cons, List.any_nil, Bool.or_false, Bool.or_eq_true, beq_iff_eq, Str.mk.injEq, Array.mk.injEq, List.cons.injEq, and_true]
  constructor
  · rintro (h | h)
    · exact .inl h.symm
    · exact .inr h.symm
  · rintro (h | h)
    · exact .inl h.symm
    · exact .inr h.symm
theorem bools_snoc {ys : List Value} {bs : List Bool} {b : Bool} (h : LSm.BoolsAre ys bs) : LSm.BoolsAre (ys ++ [.bool b]) (bs ++ [b]) := by
  induction h with
  | nil => exact .cons _ .nil
  | cons b _ ih => exact .cons _ ih
theorem lq_next {l : List Nat} {t : Tok} {s : Shared} {g h' : Heap} {L I bd sl pl D : Addr} {oI oc1 oc2 : Obj} {m' : Str → Option Value} {nw tl2 : List (Addr × Obj)} {vp vbd vs : List Value} {kp ks kn tk i : Nat} {w1 w2 : Option Value} {z1 z2 z3 : Int} {t1 t2 t3 : Tok}
    (F : Fr g L h' m') (N : News g L h' nw) (hs : ∀ p ∈ (I, oI) :: (pl, listOf (vp ++ [Value.ref D]).toArray kp) :: (L + 1 + 1, oc2) :: (L + 1, oc1) :: (bd, listOf vbd.toArray 0) :: (sl, listOf vs.toArray ks) :: (D, tup3 z1 z2 z3 t1 t2 t3 kn) :: tl2, p ∈ nw)
    (hw1 : oc1.data = .cell w1) (hw2 : oc2.data = .cell w2)
    (hk : Knows [(Str.ofString "bounds", .ref bd), (Str.ofString "selectors", .ref sl), (Str.ofString "pieces", .ref pl), (Str.ofString "made", .str ⟨l.toArray⟩ t)] m')
    (hp : DatAll tl2 vp (((pcs l).take i).map sdat)) (htl : ∀ p ∈ tl2, p.1 ≠ pl ∧ p.1 ≠ L + 1 ∧ p.1 ≠ L + 1 + 1) (hI : (@Ne Nat pl I) ∧ (@Ne Nat (L + 1 + 1) I) ∧ (@Ne Nat (L + 1) I) ∧ (@Ne Nat bd I) ∧ (@Ne Nat sl I)) (htI : ∀ p ∈ tl2, p.1 ≠ I)
    (hD : (@Ne Nat D pl) ∧ (@Ne Nat D (L + 1)) ∧ (@Ne Nat D (L + 1 + 1)) ∧ (@Ne Nat D I)) {b e sz : Nat} (hq : (pcs l)[i]? = some (b, e, sz)) (h1 : z1 = (b : Nat)) (h2 : z2 = (e : Nat)) (h3 : z3 = (sz : Nat)) :
    ForNext g L I oI (LqJ l t s bd sl pl L vbd vs ks (i + 1)) s.drawn s.os ⟨h', s.gens, s.drawn, tk, s.os⟩ := by
  subst h1 h2 h3
  refine ForNext.intro _ F N hs ?_ ⟨vp ++ [.ref D], kp, oc1, oc2, w1, w2, (D, tup3 b e sz t1 t2 t3 kn) :: tl2, rfl, hw1, hw2, rfl, hk, ?_, List.forall_mem_cons.mpr ⟨⟨hD.1, hD.2.1, hD.2.2.1⟩, htl⟩⟩
  · exact List.forall_mem_cons.mpr ⟨hI.1, List.forall_mem_cons.mpr ⟨hI.2.1, List.forall_mem_cons.mpr ⟨hI.2.2.1, List.forall_mem_cons.mpr ⟨hI.2.2.2.1, List.forall_mem_cons.mpr ⟨hI.2.2.2.2, List.forall_mem_cons.mpr ⟨hD.2.2.2, htI⟩⟩⟩⟩⟩⟩
  · have e1 : (pcs l).take (i + 1) = (pcs l).take i ++ [(b, e, sz)] := by rw [List.take_add_one, hq]; rfl
    rw [e1, List.map_append]
    refine (hp.mono fun p h => .tail _ h).append (DatAll.one ?_)
    exact DatIn.tuple (.head _) (.cons (.int _ _) (.cons (.int _ _) (.cons (.int _ _) .nil)))
theorem pieces_gives (w : World) {l : List Nat} (hl : ∀ c ∈ l, Made c) (hn : l.length < 100) (hne : l ≠ []) (hl8 : ∀ c r, l = c :: r → c ≠ 8205) {t : Tok} : Raw PySem.Challenge.rw_fe0297_01.row.prog w (hd.heap_39 w.params) 257 [] [.str ⟨l.toArray⟩ t] 20 80
    (Keep [] fun tl r => ∃ D vs k, r = .ref D ∧ (D, listOf vs.toArray k) ∈ tl ∧ DatAll tl vs ((pcs l).map sdat)) := by
  refine raw_ofC [(Str.ofString "made", .str ⟨l.toArray⟩ t)] (by k_is) (by k_is) (fun s X => BindsTo.of_eq rfl) (fun n => List.forall_mem_cons.mpr ⟨.inl rfl, fun _ h => nomatch h⟩) (by decide) rfl rfl rfl ?_
  intro dp un gd outer g L mg mb p loose s cells F X N HC hpre T hd hu
  obtain ⟨o2, o1, rfl, ho2, ho1⟩ := HC.two
  replace F : Fr g L s.heap (fun y => if y = Str.ofString "made" then some (Value.str ⟨l.toArray⟩ t) else none) := F
  replace N : News g L s.heap [(L + 1 + 1, o2), (L + 1, o1)] := N
  clear HC hpre
  have hlen : 1 ≤ l.length := List.length_pos_iff.mpr hne
  show wpAny _ _ _ _ _ _
  k_fold
  k_steps
  refine Halt.out ?_
  refine For_led ?_
  k_steps
  rename_i bg h5 l1a h4 tka sl h3 l1b h2 h1 F1 N1 u0 tk1 h0 tk2 t1 u1 v1 hR F2 N2 hup
  have hbs : bg ≠ sl := Nat.ne_of_lt l1b.1
  have hsb : sl ≠ bg := Ne.symm hbs
  have hb1 : ∀ p ∈ [(L + 1 + 1, o2), (L + 1, o1)], p.1 ≠ bg := List.forall_mem_cons.mpr ⟨Nat.ne_of_lt l1a.1, List.forall_mem_cons.mpr ⟨Nat.ne_of_lt l1a.2, fun _ h => nomatch h⟩⟩
  have hb2 : ∀ p ∈ [(L + 1 + 1, o2), (L + 1, o1)], p.1 ≠ sl := List.forall_mem_cons.mpr ⟨Nat.ne_of_lt l1b.2.1, List.forall_mem_cons.mpr ⟨Nat.ne_of_lt l1b.2.2, fun _ h => nomatch h⟩⟩
  have hb3 : ∀ vs ks, ∀ p ∈ [(sl, listOf vs ks), (L + 1 + 1, o2), (L + 1, o1)], p.1 ≠ bg := fun _ _ => List.forall_mem_cons.mpr ⟨hsb, hb1⟩
  clear l1a l1b
  refine iter_range (n := l.length) (LpJ l t s [(L + 1 + 1, o2), (L + 1, o1)] bg sl) rfl hR (small_one (by omega) (by omega) (by omega) (by omega)) (by rw [rangeSize_nat]; omega) F2 (cb_drop N2 (by walk_at "news in")) ⟨[], [], _, _, -1, _, false, [], [], rfl, rfl, by walk_at "knows", DatAll.nil, DatAll.nil, ScI.start l, by omega, rfl⟩ ?_ ?_
  · clear F1 N1 F2 N2 hR hup
    rintro i ti I m rest gs oI h tk hi ⟨vb, vs, kb, ks, taken, tt, flag, bs, ss, rfl, rfl, hk, hb, hv, hS, ht, hf⟩ hr F3 N3
    replace F3 := fr_kn _ F3 hk
    clear hk
    obtain ⟨c, hc⟩ : ∃ c, l[i]? = some c := ⟨_, List.getElem?_eq_getElem hi⟩
    have hM : Made c := hl c (List.mem_of_getElem? hc)
    have hbl := hS.bl
    have hsl := hS.sl
    have hvb : vb.length < 2000 := by rw [hb.length, List.length_map]; omega
    have hvs : vs.length < 2000 := by rw [hv.length, List.length_map]; omega
    have hIb : I ≠ bg := Ne.symm (hr _ (.head _))
    have hIs : I ≠ sl := Ne.symm (hr _ (.tail _ (.head _)))
    have hrr : ∀ vb kb vs ks, ∀ p ∈ [(bg, listOf vb kb), (sl, listOf vs ks), (L + 1 + 1, o2), (L + 1, o1)], p.1 ≠ I := fun _ _ _ _ => List.forall_mem_cons.mpr ⟨Ne.symm hIb, List.forall_mem_cons.mpr ⟨Ne.symm hIs, fun p hp => hr p (.tail _ (.tail _ hp))⟩⟩
    have hb3' := hb3 vs.toArray ks
    rw [Int.zero_add]
    cases flag with
    | true =>
      have hti : taken = i := by have := beq_iff_eq.mp hf; omega
      show wpAny _ _ _ _ _ _
      k_fold
      k_steps
      exact lp_next (by assumption) (by assumption) (by walk_at "news in") (hrr _ _ _ _) (by walk_at "knows") false bs ss hb hv (hS.skip hc) (by omega) (beq_eq_false_iff_ne.mpr (by omega))
    | false =>
      have hS' := hS.go hc
      have hne' : (i : Int) ≠ taken := beq_eq_false_iff_ne.mp hf
      have hf2 : (((i + 1 : Nat) : Int) == taken) = false := beq_eq_false_iff_ne.mpr (by omega)
      by_cases hi0 : i = 0
      · have h0 : (((i : Nat) : Int) == 0) = true := beq_iff_eq.mpr (by omega)
        have hc8 : c ≠ 8205 := by
          subst hi0
          cases l with
          | nil => exact absurd rfl hne
          | cons d r =>
            obtain rfl : d = c := by simpa using hc
            exact hl8 _ _ rfl
        have z8 := str1_ne (lit := "\u200d") (by decide) hc8
        rw [if_pos (.inl hi0), beq_eq_false_iff_ne.mpr hc8] at hS'
        by_cases h9 : c = 65039
        · have z9 := str1_eq (lit := "\ufe0f") (by decide) h9
          rw [if_pos h9] at hS'
          show wpAny _ _ _ _ _ _
          k_fold
          k_steps
          exact lp_next (by assumption) (by assumption) (by walk_at "news in") (hrr _ _ _ _) (by walk_at "knows") false (bs ++ [i]) (ss ++ [i]) (dats_int hb) (dats_int hv) hS' (by omega) hf2
        · have z9 := str1_ne (lit := "\ufe0f") (by decide) h9
          rw [if_neg h9] at hS'
          show wpAny _ _ _ _ _ _
          k_fold
          k_steps
          exact lp_next (by assumption) (by assumption) (by walk_at "news in") (hrr _ _ _ _) (by walk_at "knows") false (bs ++ [i]) ss (dats_int hb) hv hS' (by omega) hf2
      · have h0 : (((i : Nat) : Int) == 0) = false := beq_eq_false_iff_ne.mpr (by omega)
        by_cases hw : 0 < wid c
        · have hwI : decide (((wid c : Nat) : Int) > 0) = true := decide_eq_true (by omega)
          have hc8 : c ≠ 8205 := fun e => by subst e; exact absurd hw (by decide)
          have h9 : c ≠ 65039 := fun e => by subst e; exact absurd hw (by decide)
          have z8 := str1_ne (lit := "\u200d") (by decide) hc8
          have z9 := str1_ne (lit := "\ufe0f") (by decide) h9
          rw [if_pos (.inr hw), beq_eq_false_iff_ne.mpr hc8, if_neg h9] at hS'
          show wpAny _ _ _ _ _ _
          k_fold
          k_steps
          exact lp_next (by assumption) (by assumption) (by walk_at "news in") (hrr _ _ _ _) (by walk_at "knows") false (bs ++ [i]) ss (dats_int hb) hv hS' (by omega) hf2
        · have hwI : decide (((wid c : Nat) : Int) > 0) = false := decide_eq_false (by omega)
          rw [if_neg (by omega)] at hS'
          by_cases h8 : c = 8205
          · have h9 : c ≠ 65039 := by omega
            have z8 := str1_eq (lit := "\u200d") (by decide) h8
            have z9 := str1_ne (lit := "\ufe0f") (by decide) h9
            rw [beq_iff_eq.mpr h8, if_neg h9] at hS'
            show wpAny _ _ _ _ _ _
            k_fold
            k_steps
            exact lp_next (by assumption) (by assumption) (by walk_at "news in") (hrr _ _ _ _) (by walk_at "knows") true bs ss hb hv hS' (by omega) (beq_iff_eq.mpr (by omega))
          · have z8 := str1_ne (lit := "\u200d") (by decide) h8
            rw [beq_eq_false_iff_ne.mpr h8] at hS'
            by_cases h9 : c = 65039
            · have z9 := str1_eq (lit := "\ufe0f") (by decide) h9
              rw [if_pos h9] at hS'
              show wpAny _ _ _ _ _ _
              k_fold
              k_steps
              exact lp_next (by assumption) (by assumption) (by walk_at "news in") (hrr _ _ _ _) (by walk_at "knows") false bs (ss ++ [i]) hb (dats_int hv) hS' (by omega) hf2
            · have z9 := str1_ne (lit := "\ufe0f") (by decide) h9
              rw [if_neg h9] at hS'
              show wpAny _ _ _ _ _ _
              k_fold
              k_steps
              exact lp_next (by assumption) (by assumption) (by walk_at "news in") (hrr _ _ _ _) (by walk_at "knows") false bs ss hb hv hS' (by omega) hf2
  · clear F1 N1 F2 N2 hR hup
    rintro m rest gs h tk ⟨vb, vs, kb, ks, taken, tt, flag, bs, ss, rfl, rfl, hk, hb, hv, hS, ht, hf⟩ F3 N3
    replace F3 := fr_kn _ F3 hk
    clear hk
    obtain ⟨rfl, rfl⟩ := hS.done
    have hbl := hS.bl
    have hsl := hS.sl
    have hvb : vb.length < 2000 := by rw [hb.length, List.length_map]; omega
    have hvs : vs.length < 2000 := by rw [hv.length, List.length_map]; omega
    show wpAny _ _ _ _ _ _
    k_fold
    k_steps
    refine Halt.out ?_
    refine For_led ?_
    k_steps
    rename_i ulen tkl l9 h5 l1a bd h4 FX NX l1b h3 tka pl h2 l1c h1 F1 N1 u0 tk1 h0 tk2 t1 u1 v1 hR F2 N2 hup
    have hpl1 : (@Ne Nat pl bd) ∧ (@Ne Nat pl sl) ∧ (@Ne Nat pl (L + 1 + 1)) ∧ (@Ne Nat pl (L + 1)) ∧ (@Ne Nat bd (L + 1 + 1)) ∧ (@Ne Nat bd (L + 1)) ∧ (@Ne Nat sl (L + 1 + 1)) ∧ (@Ne Nat sl (L + 1)) ∧ (@Ne Nat bd sl) := by
      have q1 := hb2 _ (.head _)
      have q2 := hb2 _ (.tail _ (.head _))
      refine ⟨Nat.ne_of_gt l1c.1, Nat.ne_of_gt l1c.2.2.2.1, Nat.ne_of_gt l1c.2.2.2.2.1, Nat.ne_of_gt l1c.2.2.2.2.2, Nat.ne_of_gt l1b.2.2.2.1, Nat.ne_of_gt l1b.2.2.2.2, Ne.symm q1, Ne.symm q2, Nat.ne_of_gt l1b.2.2.1⟩
    have hbd : DatAll [] (vb ++ [Value.int (l.length : Nat) ulen]) (((scan 0 false l).1 ++ [l.length]).map idat) := dats_int hb
    have hbn : vb.length = (pcs l).length := by rw [hb.length, List.length_map, pcs_len hl8]
    generalize hvbd : vb ++ [Value.int (l.length : Nat) ulen] = vbd at F2 N2 hbd
    clear FX NX F1 N1 l1a l1b l1c hup hb3
    refine iter_range (n := vb.length) (LqJ l t s bd sl pl L vbd vs ks) rfl hR (small_one (by omega) (by omega) (by omega) (by omega)) (by rw [rangeSize_nat]; omega) F2 (cb_drop N2 (by walk_at "news in")) ⟨[], _, o1, o2, _, _, [], rfl, ho1, ho2, rfl, by walk_at "knows", DatAll.nil, fun _ h => nomatch h⟩ ?_ ?_
    · clear F2 N2 hR
      rintro i ti I m rest gs oI h tk hi ⟨vp, kp, oc1, oc2, w1, w2, tl2, rfl, hw1, hw2, rfl, hk, hp, htl⟩ hr F3 N3
      replace F3 := fr_kn _ F3 hk
      clear hk
      obtain ⟨b, e, e1, e2, e3, hbl'⟩ := pcs_at hl8 (by rw [pcs_len hl8]; omega : i < (scan 0 false l).1.length)
      obtain ⟨tb, hvb1⟩ := dat_int_at hbd e1
      obtain ⟨te, hvb2⟩ := dat_int_at hbd e2
      obtain ⟨c, hc⟩ : ∃ c, l[b]? = some c := ⟨_, List.getElem?_eq_getElem hbl'⟩
      have hM : Made c := hl c (List.mem_of_getElem? hc)
      have hz1 : i < 2 ^ 20 := by omega
      have hoB : ∀ p ∈ (bd, listOf vbd.toArray 0) :: (sl, listOf vs.toArray ks) :: tl2, p.1 ≠ L + 1 := List.forall_mem_cons.mpr ⟨hpl1.2.2.2.2.2.1, List.forall_mem_cons.mpr ⟨hpl1.2.2.2.2.2.2.2.1, fun p hp => (htl p hp).2.1⟩⟩
      have hoE : ∀ p ∈ (bd, listOf vbd.toArray 0) :: (sl, listOf vs.toArray ks) :: tl2, p.1 ≠ L + 1 + 1 := List.forall_mem_cons.mpr ⟨hpl1.2.2.2.2.1, List.forall_mem_cons.mpr ⟨hpl1.2.2.2.2.2.2.1, fun p hp => (htl p hp).2.2⟩⟩
      have hI : (@Ne Nat pl I) ∧ (@Ne Nat (L + 1 + 1) I) ∧ (@Ne Nat (L + 1) I) ∧ (@Ne Nat bd I) ∧ (@Ne Nat sl I) := ⟨hr _ (.head _), hr _ (.tail _ (.head _)), hr _ (.tail _ (.tail _ (.head _))), hr _ (.tail _ (.tail _ (.tail _ (.head _)))), hr _ (.tail _ (.tail _ (.tail _ (.tail _ (.head _)))))⟩
      have hLL : L + 1 ≠ L + 1 + 1 := Nat.ne_of_lt (Nat.lt_succ_self _)
      rw [Int.zero_add]
      have hoP : ∀ p ∈ (bd, listOf vbd.toArray 0) :: (sl, listOf vs.toArray ks) :: tl2, p.1 ≠ pl := List.forall_mem_cons.mpr ⟨Ne.symm hpl1.1, List.forall_mem_cons.mpr ⟨Ne.symm hpl1.2.1, fun p hp => (htl p hp).1⟩⟩
      have htI : ∀ p ∈ tl2, p.1 ≠ I := fun p hp => hr p (.tail _ (.tail _ (.tail _ (.tail _ (.tail _ hp)))))
      have hvp : vp.length < 2000 := by rw [hp.length, List.length_map, List.length_take]; omega
      have hnw := n2w_any c
      have hwl := wid_le c
      have hgd : l.getD b 0 = c := by simp [List.getD_eq_getElem?_getD, hc]
      cases hb2 : n2w c with
      | false =>
        rw [hb2] at hnw
        have hsz : szl l (scan 0 false l).2 b e = wid c := by unfold szl; rw [hgd, hb2]; simp
        rw [hsz] at e3
        show wpAny _ _ _ _ _ _
        k_fold
        k_steps
        exact lq_next (by assumption) (by assumption) (by walk_at "news in") (by assumption) (by assumption) (by walk_at "knows") hp htl hI htI ⟨by k_ne, by k_ne, by k_ne, by k_ne⟩ e3 rfl rfl (by omega)
      | true =>
        rw [hb2] at hnw
        show wpAny _ _ _ _ _ _
        k_fold
        k_steps
        refine Halt.out ?_
        rename Fr _ _ _ _ => F5
        rename News _ _ _ _ => N5
        have hsn : vs.length = (scan 0 false l).2.length := by rw [hv.length, List.length_map]
        refine comp_list1 F5 (by with_unfolding_all rfl) (by decide) rfl (by decide) rfl ?_
        k_steps
        refine listsrc1_pure (vs := vs) (k := ks) rfl F5 N5 (by k_mem) (by omega) (fun j ys => LSm.BoolsAre ys (((scan 0 false l).2.take j).map fun p => decide (b < p) && decide (p < e))) .nil ?_ ?_
        · clear F5 N5
          rintro j v ys nw gs I2 oI2 C oC D m₂ h2 tk2 hj hvj ⟨rfl, rfl, hY⟩ hC hm F N off ne hC0 hCL
          have hjs : j < (scan 0 false l).2.length := by omega
          obtain ⟨tp, htp⟩ := dat_int_at hv (List.getElem?_eq_getElem hjs)
          rw [htp] at hvj
          cases hvj
          generalize hpv : (scan 0 false l).2[j] = p at hm htp
          have etk : (scan 0 false l).2.take (j + 1) = (scan 0 false l).2.take j ++ [p] := by rw [List.take_add_one, List.getElem?_eq_getElem hjs, hpv]; rfl
          by_cases hbp : b < p
          · have hbI : decide (((b : Nat) : Int) < ((p : Nat) : Int)) = true := decide_eq_true (by omega)
            show wpAny _ _ _ _ _ _
            k_fold
            k_steps
            refine CompNext.intro _ (by assumption) (by assumption) (by walk_at "news in") off ⟨rfl, rfl, ?_⟩
            rw [etk, List.map_append]
            have ee : (decide (b < p) && decide (p < e)) = decide (((p : Nat) : Int) < ((e : Nat) : Int)) := by simp [hbp]
            show LSm.BoolsAre _ (_ ++ [decide (b < p) && decide (p < e)])
            rw [ee]
            exact bools_snoc hY
          · have hbI : decide (((b : Nat) : Int) < ((p : Nat) : Int)) = false := decide_eq_false (by omega)
            show wpAny _ _ _ _ _ _
            k_fold
            k_steps
            refine CompNext.intro _ (by assumption) (by assumption) (by walk_at "news in") off ⟨rfl, rfl, ?_⟩
            rw [etk, List.map_append]
            have ee : (decide (b < p) && decide (p < e)) = decide (((b : Nat) : Int) < ((p : Nat) : Int)) := by simp [hbp]
            show LSm.BoolsAre _ (_ ++ [decide (b < p) && decide (p < e)])
            rw [ee]
            exact bools_snoc hY
        · intro D ys h2 tk2 hY F N off
          clear F5 N5
          simp only [LCg.Off1] at off
          obtain ⟨off1, off2, off3, off4, off5, off6, off7, off8⟩ := off
          cases hany : (((scan 0 false l).2.take vs.length).map fun p => decide (b < p) && decide (p < e)).any id with
          | false =>
            have hsz : szl l (scan 0 false l).2 b e = wid c := by
              unfold szl
              rw [hsn, List.take_length, List.any_map] at hany
              rw [hgd, show ((scan 0 false l).2.any fun p => decide (b < p) && decide (p < e)) = false from hany]
              simp
            rw [hsz] at e3
            k_steps
            refine Halt.out ?_
            refine any_l F N (.head _) rfl hY ?_
            rw [hany]
            clear F N hY hany hnw hgd
            intro h3 tk3 F N
            k_steps
            exact lq_next (by assumption) (by assumption) (by walk_at "news in") (by assumption) (by assumption) (by walk_at "knows") hp htl hI htI ⟨by k_ne, by k_ne, by k_ne, by k_ne⟩ e3 rfl rfl (by omega)
          | true =>
            have hsz : szl l (scan 0 false l).2 b e = wid c + 1 := by
              unfold szl
              rw [hsn, List.take_length, List.any_map] at hany
              rw [hgd, hb2, show ((scan 0 false l).2.any fun p => decide (b < p) && decide (p < e)) = true from hany]
              simp
            rw [hsz] at e3
            k_steps
            refine Halt.out ?_
            refine any_l F N (.head _) rfl hY ?_
            rw [hany]
            clear F N hY hany hnw hgd
            intro h3 tk3 F N
            k_steps
            exact lq_next (by assumption) (by assumption) (by walk_at "news in") (by assumption) (by assumption) (by walk_at "knows") hp htl hI htI ⟨by k_ne, by k_ne, by k_ne, by k_ne⟩ e3 rfl rfl (by omega)
    · clear F2 N2 hR
      rintro m rest gs h tk ⟨vp, kp, oc1, oc2, w1, w2, tl2, rfl, hw1, hw2, rfl, hk, hp, htl⟩ F3 N3
      replace F3 := fr_kn _ F3 hk
      clear hk
      rw [hbn, List.take_length] at hp
      show wpAny _ _ _ _ _ _
      k_fold
      k_steps
      refine RetP.intro ((pl, listOf vp.toArray kp) :: tl2) F3 N3 (by walk_at "news in") ⟨pl, vp, kp, rfl, .head _, hp.mono fun p h => .tail _ h⟩
end Mine
namespace Mine
open PySem PySem.Spec PySem.Calls PyProof.Rows PySem.W
local macro_rules | `(tactic| walk_at "news in") => `(tactic| first | (with_reducible exact sub_self) | (with_reducible exact sub_nil) | ((with_reducible refine sub_cons ?a1 ?a2); (case a1 => k_mem); (case a2 => walk_at "news in")) | ((with_reducible refine sub_app ?a1 ?a2); (case a1 => walk_at "news in"); (case a2 => walk_at "news in")) | ((with_reducible refine sub_skip ?_); walk_at "news in") | ((with_reducible refine sub_appL ?_); walk_at "news in") | ((with_reducible refine sub_appR ?_); walk_at "news in"))
local macro_rules | `(tactic| k_room) => `(tactic| ktr_room)
local macro_rules | `(tactic| walk_at "my room") => `(tactic| ((try dsimp only); first | ktr_room | omega))
local macro_rules | `(tactic| walk_at "my units") => `(tactic| ((try dsimp only); first | ktr_units | omega))
local macro_rules | `(tactic| walk_at "my given") => `(tactic| ((case hh => first | exact rfl | assumption); (case F => k_asm); (case X => k_asm); (case N => k_asm); (case T => k_asm); (case hs => walk_at "news in"); (case hd => walk_at "my room"); (case hu => walk_at "my units")))
local macro_rules | `(tactic| walk_at "getMethod type:tuple") => `(tactic| (k_here; refine' method_type ?F ?X ?m (by decide +kernel) ?e ?h ?_; (case F => k_asm); (case X => k_asm); (case m => exact meta_tuple'); (case e => k_dflt k_is); (case h => k_handed)))
local macro_rules | `(tactic| walk_at "ForPost") => `(tactic| dsimp only [ForPost])
local macro_rules | `(tactic| walk_at "WhilePost") => `(tactic| dsimp only [WhilePost])
local macro_rules | `(tactic| walk_at "knows") => `(tactic| first | exact kn_nil | (refine kn_cons ?a1 ?a2; (case a1 => first | with_reducible assumption | exact rfl | with_unfolding_all exact rfl); (case a2 => walk_at "knows")))
local macro_rules | `(tactic| walk_at "WhileEnd") => `(tactic| dsimp only [WhileEnd])
local macro_rules | `(tactic| k_ne) => `(tactic| (refine neN ?_; (try dsimp only); (repeat (with_reducible rename _ ∧ _ => hcj; cases hcj)); first | assumption | (refine Ne.symm ?_; assumption) | exact Nat.ne_of_lt (by assumption) | exact Nat.ne_of_gt (by assumption) | ((repeat (with_reducible rename _ ≠ _ => hx9; clear hx9)); omega)))
local macro_rules | `(tactic| walk_at "exec For Tuple Name cons nil") => `(tactic| refine halt ?_)
local macro_rules | `(tactic| walk_at "exec For Tuple Name cons cons") => `(tactic| refine halt ?_)
local macro_rules | `(tactic| walk_at "call builtin:len") => `(tactic| (k_here; (with_reducible show wpAny _ _ (call (Value.builtin "len") [Value.str ⟨List.toArray _⟩ _]) _ _ _); k_dflt (refine len_sg (by omega) ?_; intro u' tk')))
local macro_rules | `(tactic| walk_at "subscriptTail") => `(tactic| (k_here; (with_reducible show wpAny _ _ (subscriptTail _ _ (Value.str ⟨List.toArray _⟩ _) (Value.int (Nat.cast _) _)) _ _ _); k_dflt (refine item_sg (by omega) (by assumption) ?_; intro u' tk')))
local macro_rules | `(tactic| walk_at "subscriptTail Name Name str int") => `(tactic| (k_here; (with_reducible show wpAny _ _ (subscriptTail _ _ (Value.str ⟨List.toArray _⟩ _) (Value.int (Nat.cast _) _)) _ _ _); k_dflt (refine item_sg (by omega) (by assumption) ?_; intro u' tk')))
local macro_rules | `(tactic| walk_at "subscriptTail") => `(tactic| (k_here; (with_reducible show wpAny _ _ (subscriptTail _ _ (Value.ref _) (Value.int _ _)) _ _ _); k_dflt (refine' item_last ?N ?m ?_ ?s; (case N => k_asm); (case m => k_mem); (case s => with_unfolding_all rfl); k_whole)))
local macro_rules | `(tactic| walk_at "subscriptTail Name UnaryOp ref int") => `(tactic| (k_here; (with_reducible show wpAny _ _ (subscriptTail _ _ (Value.ref _) (Value.int _ _)) _ _ _); k_dflt (refine' item_last ?N ?m ?_ ?s; (case N => k_asm); (case m => k_mem); (case s => with_unfolding_all rfl); k_whole)))
local macro_rules | `(tactic| walk_at "subscriptTail Name Constant ref int") => `(tactic| (k_here; (with_reducible show wpAny _ _ (subscriptTail _ _ (Value.ref _) (Value.int _ _)) _ _ _); k_dflt (refine' item_last ?N ?m ?_ ?s; (case N => k_asm); (case m => k_mem); (case s => with_unfolding_all rfl); k_whole)))
local macro_rules | `(tactic| walk_at "my upd") => `(tactic| first | exact Upd.head (by assumption) | (refine' Upd.tail ?a ?b; (case a => k_ne); (case b => walk_at "my upd")))
local macro_rules | `(tactic| walk_at "setItem ref int") => `(tactic| (k_here; (with_reducible show wpAny _ _ (PySem.setItem (Value.ref _) (Value.int _ _) (Value.ref _)) _ _ _); k_dflt (refine' set_last ?F ?N ?U ?_; (case F => k_asm); (case N => k_asm); (case U => walk_at "my upd"); k_whole); intro h' F' N'; (try k_sweep)))
local macro_rules | `(tactic| walk_at "setItem ref int ref") => `(tactic| (k_here; (with_reducible show wpAny _ _ (PySem.setItem (Value.ref _) (Value.int _ _) (Value.ref _)) _ _ _); k_dflt (refine' set_last ?F ?N ?U ?_; (case F => k_asm); (case N => k_asm); (case U => walk_at "my upd"); k_whole); intro h' F' N'; (try k_sweep)))
local macro_rules | `(tactic| walk_at "call builtin:list.append") => `(tactic| (k_here; (with_reducible show wpAny _ _ (call (Value.builtin _) [Value.ref _, _]) _ _ _); k_dflt (refine' append_l ?F ?N ?U ?_ ?z; (case F => k_asm); (case N => k_asm); (case U => walk_at "my upd"); (case z => first | assumption | (simp; done) | (simp; omega)); k_whole); intro h' F' N'; (try k_sweep)))
local macro_rules | `(tactic| walk_at "truthy ref") => `(tactic| (k_here; (with_reducible show wpAny _ _ (truthy (Value.ref _)) _ _ _); k_dflt (refine' truthy_snoc ?N ?m ?z ?_; (case N => k_asm); (case m => k_mem); (case z => first | assumption | omega); k_whole; intro tk')))
local macro_rules | `(tactic| walk_at "subscriptTail Name Slice str ref") => `(tactic| (k_here; (with_reducible show wpAny _ _ (subscriptTail _ (Expr.Slice none (some _) none _) (Value.str ⟨List.toArray _⟩ _) _) _ _ _); (with_reducible rename Fr _ _ _ _ => F'); (with_reducible rename News _ _ _ _ => N'); k_dflt (refine' cut_to (s := ⟨_, _, _, _, _⟩) F' N' ?z ?j ?_ ?s ?t; (case s => with_unfolding_all rfl); (case t => intro _; with_unfolding_all rfl); (case z => omega); (case j => first | assumption | omega)); intro _ _ _ _ _; (try k_sweep)))
local macro_rules | `(tactic| walk_at "subscriptTail Name Slice str ref") => `(tactic| (k_here; (with_reducible show wpAny _ _ (subscriptTail _ (Expr.Slice (some _) none none _) (Value.str ⟨List.toArray _⟩ _) _) _ _ _); (with_reducible rename Fr _ _ _ _ => F'); (with_reducible rename News _ _ _ _ => N'); k_dflt (refine' cut_from (s := ⟨_, _, _, _, _⟩) F' N' ?z ?j ?_ ?s ?t; (case s => with_unfolding_all rfl); (case t => intro _; with_unfolding_all rfl); (case z => omega); (case j => first | assumption | omega)); intro _ _ _ _ _; (try k_sweep)))
local macro_rules | `(tactic| walk_at "subscriptTail Name Slice str ref") => `(tactic| (k_here; (with_reducible show wpAny _ _ (subscriptTail _ (Expr.Slice (some _) (some _) none _) (Value.str ⟨List.toArray _⟩ _) _) _ _ _); (with_reducible rename Fr _ _ _ _ => F'); (with_reducible rename News _ _ _ _ => N'); k_dflt (refine' cut_mid (s := ⟨_, _, _, _, _⟩) F' N' ?z ?i ?j ?_ ?s ?t; (case s => with_unfolding_all rfl); (case t => intro _; with_unfolding_all rfl); (case z => omega); (case i => first | assumption | omega); (case j => first | assumption | omega)); intro _ _ _ _ _; (try k_sweep)))
local macro_rules | `(tactic| walk_at "subscriptTail Name Slice ref ref") => `(tactic| (k_here; (with_reducible show wpAny _ _ (subscriptTail _ (Expr.Slice none (some _) none _) (Value.ref _) _) _ _ _); (with_reducible rename Fr _ _ _ _ => F'); (with_reducible rename News _ _ _ _ => N'); k_dflt (refine' cut_list (s := ⟨_, _, _, _, _⟩) F' N' ?m ?z ?j ?_ ?s ?t; (case m => k_mem); (case s => with_unfolding_all rfl); (case t => intro _; with_unfolding_all rfl); (case z => first | assumption | omega); (case j => first | assumption | omega)); intro D' h' F' N' l1; (try k_lt l1); (try k_sweep)))
local macro_rules | `(tactic| walk_at "call builtin:len") => `(tactic| (k_here; (with_reducible show wpAny _ _ (call (Value.builtin "len") [Value.ref _]) _ _ _); k_dflt (refine' len_l ?N ?m ?z ?_; (case N => k_asm); (case m => k_mem); (case z => first | assumption | omega); k_whole); intro u' tk'))
local macro_rules | `(tactic| walk_at "binaryOp FloorDiv int int") => `(tactic| (k_here; k_dflt (refine' fdiv_nat ?a ?b ?_; (case a => omega); (case b => omega); k_whole); intro u' tk'))
local macro_rules | `(tactic| walk_at "subscriptTail Name Name ref int") => `(tactic| (k_here; (with_reducible show wpAny _ _ (subscriptTail _ _ (Value.ref _) (Value.int (Nat.cast _) _)) _ _ _); k_dflt (refine' item_nth ?N ?m ?i ?x ?_ ?s; (case N => k_asm); (case m => k_mem); (case i => omega); (case x => assumption); (case s => with_unfolding_all rfl); k_whole)))
local macro_rules | `(tactic| walk_at "subscriptTail Name BinOp ref int") => `(tactic| (k_here; (with_reducible show wpAny _ _ (subscriptTail _ _ (Value.ref _) (Value.int _ _)) _ _ _); k_dflt (refine' item_pred ?N ?m ?i ?x ?_ ?s; (case N => k_asm); (case m => k_mem); (case i => omega); (case x => assumption); (case s => with_unfolding_all rfl); k_whole)))
local macro_rules | `(tactic| walk_at "subscriptTail Subscript Name Name Constant ref int") => `(tactic| (k_here; (with_reducible show wpAny _ _ (subscriptTail _ _ (Value.ref _) (Value.int _ _)) _ _ _); k_dflt (refine' item_tup ?N ?m ?lo ?hi ?hj ?hx ?_ ?s; (case N => k_asm); (case m => k_mem); (case lo => decide); (case hi => decide); (case hj => exact rfl); (case hx => exact rfl); (case s => with_unfolding_all rfl); k_whole)))
local macro_rules | `(tactic| walk_at "setItem ref int") => `(tactic| (k_here; (with_reducible show wpAny _ _ (PySem.setItem (Value.ref _) (Value.int _ _) (Value.str _ _)) _ _ _); k_dflt (refine' set_last ?F ?N ?U ?_; (case F => k_asm); (case N => k_asm); (case U => walk_at "my upd"); k_whole); intro h' F' N'; (try k_sweep)))
theorem fill13 : ∀ (w : World) (h : Heap), (hd.heap_39 w.params).In h → PySem.Challenge.rw_fe0297_01.row.prog = PySem.Challenge.rw_fe0297_01.row.prog → True := by
  k_fill
  intros
  trivial

local macro_rules | `(tactic| walk_at "binaryOp Add str str") => `(tactic| (k_here; k_dflt (first
  | ((with_reducible show wpAny _ _ (binaryOp _ (Value.str ⟨List.toArray _⟩ _) (Value.str ⟨List.toArray _⟩ _)) _ _ _); refine add_sg rfl (by assumption) ?_; intro _ _)
  | ((with_reducible show wpAny _ _ (binaryOp _ (Value.str ⟨List.toArray _⟩ _) (Value.str (Str.ofString _) _)) _ _ _); refine add_sg (b := [32]) (by decide) (by simp; omega) ?_; intro _ _)
  | ((with_reducible show wpAny _ _ (binaryOp _ (Value.str (Str.ofString " ") _) (Value.str ⟨List.toArray _⟩ _)) _ _ _); refine add_gs (a := [32]) (by decide) (by simp; omega) ?_; intro _ _)
  | ((with_reducible show wpAny _ _ (binaryOp _ (Value.str (Str.ofString "") _) (Value.str ⟨List.toArray _⟩ _)) _ _ _); refine add_gs (a := []) (by decide) (by simp; omega) ?_; intro _ _))))
/-- the loop of _law_split -/
def LsJ (l : List Nat) (cell : Nat) (t u : Tok) (s : Shared) (base : List (Addr × Obj)) (k : Nat) (m : Str → Option Value) (rest : List (Addr × Obj)) (gs : Array GenState) : Prop :=
  ∃ uu : Tok, gs = s.gens ∧ rest = base ∧ Knows [(Str.ofString "used", .int (Psum (pcs l) k : Nat) uu), (Str.ofString "made", .str ⟨l.toArray⟩ t), (Str.ofString "cell", .int (cell : Nat) u)] m ∧ Psum (pcs l) k ≤ cell
theorem ls_next {l : List Nat} {cell : Nat} {t u uu : Tok} {s : Shared} {base nw : List (Addr × Obj)} {g h' : Heap} {L I : Addr} {oI : Obj} {m' : Str → Option Value} {k tk : Nat} {z : Int} (F : Fr g L h' m') (N : News g L h' nw) (hs : ∀ p ∈ (I, oI) :: base, p ∈ nw) (hr : ∀ p ∈ base, p.1 ≠ I)
    (hk : Knows [(Str.ofString "used", .int z uu), (Str.ofString "made", .str ⟨l.toArray⟩ t), (Str.ofString "cell", .int (cell : Nat) u)] m') (hz : z = (Psum (pcs l) (k + 1) : Nat)) (hle : Psum (pcs l) (k + 1) ≤ cell) : ForNext g L I oI (LsJ l cell t u s base (k + 1)) s.drawn s.os ⟨h', s.gens, s.drawn, tk, s.os⟩ := by
  subst hz
  exact ForNext.intro _ F N hs hr ⟨uu, rfl, rfl, hk, hle⟩
theorem lsplit_gives (w : World) {l : List Nat} (hn : l.length < 1000) {cell : Nat} (hc1 : 1 ≤ cell) (hc2 : cell ≤ total l) {t u : Tok} {pl : Addr} {vs : List Value} {k1 : Nat} {tl : List (Addr × Obj)} (hdat : DatAll tl vs ((pcs l).map sdat)) :
    Raw PySem.Challenge.rw_fe0297_01.row.prog w (hd.heap_39 w.params) 264 ((pl, listOf vs.toArray k1) :: tl) [.str ⟨l.toArray⟩ t, .ref pl, .int (cell : Nat) u] 10 60
    (Keep ((pl, listOf vs.toArray k1) :: tl) fun tl r => ∃ T kn a b sa sb ta tb, r = .ref T ∧ tl = [(T, tup2 (.str sa ta) (.str sb tb) kn)] ∧ sa = ⟨List.toArray a⟩ ∧ sb = ⟨List.toArray b⟩ ∧ IsSplit l (pcs l) cell a b) := by
  refine raw_of [(Str.ofString "made", .str ⟨l.toArray⟩ t), (Str.ofString "pieces", .ref pl), (Str.ofString "cell", .int (cell : Nat) u)] (by k_is) (by k_is) (fun s X => BindsTo.of_eq rfl) (locs rfl) (by decide) rfl rfl rfl ?_
  intro dp un gd outer g L mg mb p loose s F X N T hd hu
  have hT1 := total_le l
  have hpl := pcs_length l
  have hvl : vs.length = (pcs l).length := by rw [hdat.length, List.length_map]
  replace F : Fr g L s.heap (fun y => List.lookup y [(Str.ofString "cell", .int (cell : Nat) u), (Str.ofString "pieces", .ref pl), (Str.ofString "made", .str ⟨l.toArray⟩ t)]) := F
  show wpAny _ _ _ _ _ _
  k_fold
  k_steps
  refine Halt.out ?_
  rename Fr _ _ _ _ => F2
  rename News _ _ _ _ => N2
  refine For_led ?_
  k_steps
  refine iter_list (l := pl) (items := vs.toArray) (k := k1) (LsJ l cell t u s ((pl, listOf vs.toArray k1) :: tl)) rfl F2 N2 ⟨_, rfl, rfl, by walk_at "knows", by rw [Psum_zero]; omega⟩ ?_ (.inr ⟨⟨_, _, _, rfl⟩, ?_⟩) ?_ ?_
  · rintro j m rest gs h ⟨uu, rfl, rfl, _⟩ F3 N3
    exact (N3 _ (.head _)).1
  · intro j v hv
    obtain ⟨q, a, kn, t1, t2, t3, e1, rfl, e3⟩ := dat_at hdat (by simpa using hv)
    exact ⟨_, rfl⟩
  · rintro j v I m rest gs oI h tk hv ⟨uu, rfl, rfl, hk, hle⟩ hr F3 N3
    obtain ⟨⟨st, en, sz⟩, a, kn, t1, t2, t3, e1, rfl, e3⟩ := dat_at hdat (by simpa using hv)
    have hb := pcs_bound (List.mem_of_getElem? e1)
    replace hb : st ≤ en ∧ en ≤ l.length := hb
    have hP : Psum (pcs l) (j + 1) = Psum (pcs l) j + sz := Psum_succ e1
    have hsl : st ≤ l.length := by omega
    have henl : en ≤ l.length := by omega
    replace F3 := fr_kn _ F3 hk
    replace N3 : News g L h ((a, tup3 (st : Nat) (en : Nat) (sz : Nat) t1 t2 t3 kn) :: (I, oI) :: (pl, listOf vs.toArray k1) :: tl) := List.forall_mem_cons.mpr ⟨N3 _ (.tail _ (.tail _ e3)), N3⟩
    clear F2 N2 hk
    generalize hP0 : Psum (pcs l) j = P0 at F3 hle hP
    by_cases hq : P0 = cell
    · have hqI : (((P0 : Nat) : Int) == ((cell : Nat) : Int)) = true := beq_iff_eq.mpr (by omega)
      show wpAny _ _ _ _ _ _
      k_fold
      k_steps
      refine RetP.intro [(_, _)] (by assumption) (by assumption) (by walk_at "news in") ⟨_, _, l.take st, l.drop st, _, _, _, _, rfl, rfl, rfl, rfl, .inl ⟨j, ?_, by omega, .inr ⟨_, e1, rfl, rfl⟩⟩⟩
      rcases Nat.lt_or_ge j (pcs l).length with h | h
      · omega
      · rw [List.getElem?_eq_none h] at e1; cases e1
    · have hqI : (((P0 : Nat) : Int) == ((cell : Nat) : Int)) = false := beq_eq_false_iff_ne.mpr (by omega)
      by_cases hov : cell < P0 + sz
      · have hoI : decide (((P0 : Nat) : Int) + ((sz : Nat) : Int) > ((cell : Nat) : Int)) = true := decide_eq_true (by omega)
        show wpAny _ _ _ _ _ _
        k_fold
        k_steps
        exact RetP.intro [(_, _)] (by assumption) (by assumption) (by walk_at "news in") ⟨_, _, l.take st ++ [32], [32] ++ l.drop en, _, _, _, _, rfl, rfl, rfl, rfl, .inr ⟨j, _, e1, by omega, by show cell < Psum (pcs l) j + sz; omega, rfl, rfl⟩⟩
      · have hoI : decide (((P0 : Nat) : Int) + ((sz : Nat) : Int) > ((cell : Nat) : Int)) = false := decide_eq_false (by omega)
        show wpAny _ _ _ _ _ _
        k_fold
        k_steps
        exact ls_next (by assumption) (by assumption) (by walk_at "news in") hr (by walk_at "knows") (by omega) (by omega)
  · rintro m rest gs h tk ⟨uu, rfl, rfl, hk, hle⟩ F3 N3
    replace F3 := fr_kn _ F3 hk
    clear F2 N2 hk
    rw [List.size_toArray, hvl, Psum_top l (Nat.le_refl _)] at hle
    show wpAny _ _ _ _ _ _
    k_fold
    k_steps
    exact RetP.intro [(_, _)] (by assumption) (by assumption) (by walk_at "news in") ⟨_, _, l, [], _, _, _, _, rfl, rfl, rfl, by decide, .inl ⟨(pcs l).length, Nat.le_refl _, by rw [Psum_top l (Nat.le_refl _)]; omega, .inl ⟨rfl, rfl, rfl⟩⟩⟩
end Mine
namespace Mine
open PySem PySem.Spec PySem.Calls PyProof.Rows PySem.W
local macro_rules | `(tactic| walk_at "news in") => `(tactic| first | (with_reducible exact sub_self) | (with_reducible exact sub_nil) | ((with_reducible refine sub_cons ?a1 ?a2); (case a1 => k_mem); (case a2 => walk_at "news in")) | ((with_reducible refine sub_app ?a1 ?a2); (case a1 => walk_at "news in"); (case a2 => walk_at "news in")) | ((with_reducible refine sub_skip ?_); walk_at "news in") | ((with_reducible refine sub_appL ?_); walk_at "news in") | ((with_reducible refine sub_appR ?_); walk_at "news in"))
local macro_rules | `(tactic| k_room) => `(tactic| ktr_room)
local macro_rules | `(tactic| walk_at "my room") => `(tactic| ((try dsimp only); first | ktr_room | omega))
local macro_rules | `(tactic| walk_at "my units") => `(tactic| ((try dsimp only); first | ktr_units | omega))
local macro_rules | `(tactic| walk_at "my given") => `(tactic| ((case hh => first | exact rfl | assumption); (case F => k_asm); (case X => k_asm); (case N => k_asm); (case T => k_asm); (case hs => walk_at "news in"); (case hd => walk_at "my room"); (case hu => walk_at "my units")))
local macro_rules | `(tactic| walk_at "getMethod type:tuple") => `(tactic| (k_here; refine' method_type ?F ?X ?m (by decide +kernel) ?e ?h ?_; (case F => k_asm); (case X => k_asm); (case m => exact meta_tuple'); (case e => k_dflt k_is); (case h => k_handed)))
local macro_rules | `(tactic| walk_at "ForPost") => `(tactic| dsimp only [ForPost])
local macro_rules | `(tactic| walk_at "WhilePost") => `(tactic| dsimp only [WhilePost])
local macro_rules | `(tactic| walk_at "knows") => `(tactic| first | exact kn_nil | (refine kn_cons ?a1 ?a2; (case a1 => first | with_reducible assumption | exact rfl | with_unfolding_all exact rfl); (case a2 => walk_at "knows")))
local macro_rules | `(tactic| walk_at "WhileEnd") => `(tactic| dsimp only [WhileEnd])
local macro_rules | `(tactic| k_ne) => `(tactic| (refine neN ?_; (try dsimp only); (repeat (with_reducible rename _ ∧ _ => hcj; cases hcj)); first | assumption | (refine Ne.symm ?_; assumption) | exact Nat.ne_of_lt (by assumption) | exact Nat.ne_of_gt (by assumption) | ((repeat (with_reducible rename _ ≠ _ => hx9; clear hx9)); omega)))
local macro_rules | `(tactic| walk_at "exec For Tuple Name cons nil") => `(tactic| refine halt ?_)
local macro_rules | `(tactic| walk_at "exec For Tuple Name cons cons") => `(tactic| refine halt ?_)
local macro_rules | `(tactic| walk_at "call builtin:len") => `(tactic| (k_here; (with_reducible show wpAny _ _ (call (Value.builtin "len") [Value.str ⟨List.toArray _⟩ _]) _ _ _); k_dflt (refine len_sg (by omega) ?_; intro u' tk')))
local macro_rules | `(tactic| walk_at "subscriptTail") => `(tactic| (k_here; (with_reducible show wpAny _ _ (subscriptTail _ _ (Value.str ⟨List.toArray _⟩ _) (Value.int (Nat.cast _) _)) _ _ _); k_dflt (refine item_sg (by omega) (by assumption) ?_; intro u' tk')))
local macro_rules | `(tactic| walk_at "subscriptTail Name Name str int") => `(tactic| (k_here; (with_reducible show wpAny _ _ (subscriptTail _ _ (Value.str ⟨List.toArray _⟩ _) (Value.int (Nat.cast _) _)) _ _ _); k_dflt (refine item_sg (by omega) (by assumption) ?_; intro u' tk')))
local macro_rules | `(tactic| walk_at "subscriptTail") => `(tactic| (k_here; (with_reducible show wpAny _ _ (subscriptTail _ _ (Value.ref _) (Value.int _ _)) _ _ _); k_dflt (refine' item_last ?N ?m ?_ ?s; (case N => k_asm); (case m => k_mem); (case s => with_unfolding_all rfl); k_whole)))
local macro_rules | `(tactic| walk_at "subscriptTail Name UnaryOp ref int") => `(tactic| (k_here; (with_reducible show wpAny _ _ (subscriptTail _ _ (Value.ref _) (Value.int _ _)) _ _ _); k_dflt (refine' item_last ?N ?m ?_ ?s; (case N => k_asm); (case m => k_mem); (case s => with_unfolding_all rfl); k_whole)))
local macro_rules | `(tactic| walk_at "subscriptTail Name Constant ref int") => `(tactic| (k_here; (with_reducible show wpAny _ _ (subscriptTail _ _ (Value.ref _) (Value.int _ _)) _ _ _); k_dflt (refine' item_last ?N ?m ?_ ?s; (case N => k_asm); (case m => k_mem); (case s => with_unfolding_all rfl); k_whole)))
local macro_rules | `(tactic| walk_at "my upd") => `(tactic| first | exact Upd.head (by assumption) | (refine' Upd.tail ?a ?b; (case a => k_ne); (case b => walk_at "my upd")))
local macro_rules | `(tactic| walk_at "setItem ref int") => `(tactic| (k_here; (with_reducible show wpAny _ _ (PySem.setItem (Value.ref _) (Value.int _ _) (Value.ref _)) _ _ _); k_dflt (refine' set_last ?F ?N ?U ?_; (case F => k_asm); (case N => k_asm); (case U => walk_at "my upd"); k_whole); intro h' F' N'; (try k_sweep)))
local macro_rules | `(tactic| walk_at "setItem ref int ref") => `(tactic| (k_here; (with_reducible show wpAny _ _ (PySem.setItem (Value.ref _) (Value.int _ _) (Value.ref _)) _ _ _); k_dflt (refine' set_last ?F ?N ?U ?_; (case F => k_asm); (case N => k_asm); (case U => walk_at "my upd"); k_whole); intro h' F' N'; (try k_sweep)))
local macro_rules | `(tactic| walk_at "call builtin:list.append") => `(tactic| (k_here; (with_reducible show wpAny _ _ (call (Value.builtin _) [Value.ref _, _]) _ _ _); k_dflt (refine' append_l ?F ?N ?U ?_ ?z; (case F => k_asm); (case N => k_asm); (case U => walk_at "my upd"); (case z => first | assumption | (simp; done) | (simp; omega)); k_whole); intro h' F' N'; (try k_sweep)))
local macro_rules | `(tactic| walk_at "truthy ref") => `(tactic| (k_here; (with_reducible show wpAny _ _ (truthy (Value.ref _)) _ _ _); k_dflt (refine' truthy_snoc ?N ?m ?z ?_; (case N => k_asm); (case m => k_mem); (case z => first | assumption | omega); k_whole; intro tk')))
local macro_rules | `(tactic| walk_at "subscriptTail Name Slice str ref") => `(tactic| (k_here; (with_reducible show wpAny _ _ (subscriptTail _ (Expr.Slice none (some _) none _) (Value.str ⟨List.toArray _⟩ _) _) _ _ _); (with_reducible rename Fr _ _ _ _ => F'); (with_reducible rename News _ _ _ _ => N'); k_dflt (refine' cut_to (s := ⟨_, _, _, _, _⟩) F' N' ?z ?j ?_ ?s ?t; (case s => with_unfolding_all rfl); (case t => intro _; with_unfolding_all rfl); (case z => omega); (case j => first | assumption | omega)); intro _ _ _ _ _; (try k_sweep)))
local macro_rules | `(tactic| walk_at "subscriptTail Name Slice str ref") => `(tactic| (k_here; (with_reducible show wpAny _ _ (subscriptTail _ (Expr.Slice (some _) none none _) (Value.str ⟨List.toArray _⟩ _) _) _ _ _); (with_reducible rename Fr _ _ _ _ => F'); (with_reducible rename News _ _ _ _ => N'); k_dflt (refine' cut_from (s := ⟨_, _, _, _, _⟩) F' N' ?z ?j ?_ ?s ?t; (case s => with_unfolding_all rfl); (case t => intro _; with_unfolding_all rfl); (case z => omega); (case j => first | assumption | omega)); intro _ _ _ _ _; (try k_sweep)))
local macro_rules | `(tactic| walk_at "subscriptTail Name Slice str ref") => `(tactic| (k_here; (with_reducible show wpAny _ _ (subscriptTail _ (Expr.Slice (some _) (some _) none _) (Value.str ⟨List.toArray _⟩ _) _) _ _ _); (with_reducible rename Fr _ _ _ _ => F'); (with_reducible rename News _ _ _ _ => N'); k_dflt (refine' cut_mid (s := ⟨_, _, _, _, _⟩) F' N' ?z ?i ?j ?_ ?s ?t; (case s => with_unfolding_all rfl); (case t => intro _; with_unfolding_all rfl); (case z => omega); (case i => first | assumption | omega); (case j => first | assumption | omega)); intro _ _ _ _ _; (try k_sweep)))
local macro_rules | `(tactic| walk_at "subscriptTail Name Slice ref ref") => `(tactic| (k_here; (with_reducible show wpAny _ _ (subscriptTail _ (Expr.Slice none (some _) none _) (Value.ref _) _) _ _ _); (with_reducible rename Fr _ _ _ _ => F'); (with_reducible rename News _ _ _ _ => N'); k_dflt (refine' cut_list (s := ⟨_, _, _, _, _⟩) F' N' ?m ?z ?j ?_ ?s ?t; (case m => k_mem); (case s => with_unfolding_all rfl); (case t => intro _; with_unfolding_all rfl); (case z => first | assumption | omega); (case j => first | assumption | omega)); intro D' h' F' N' l1; (try k_lt l1); (try k_sweep)))
local macro_rules | `(tactic| walk_at "call builtin:len") => `(tactic| (k_here; (with_reducible show wpAny _ _ (call (Value.builtin "len") [Value.ref _]) _ _ _); k_dflt (refine' len_l ?N ?m ?z ?_; (case N => k_asm); (case m => k_mem); (case z => first | assumption | omega); k_whole); intro u' tk'))
local macro_rules | `(tactic| walk_at "binaryOp FloorDiv int int") => `(tactic| (k_here; k_dflt (refine' fdiv_nat ?a ?b ?_; (case a => omega); (case b => omega); k_whole); intro u' tk'))
local macro_rules | `(tactic| walk_at "subscriptTail Name Name ref int") => `(tactic| (k_here; (with_reducible show wpAny _ _ (subscriptTail _ _ (Value.ref _) (Value.int (Nat.cast _) _)) _ _ _); k_dflt (refine' item_nth ?N ?m ?i ?x ?_ ?s; (case N => k_asm); (case m => k_mem); (case i => omega); (case x => assumption); (case s => with_unfolding_all rfl); k_whole)))
local macro_rules | `(tactic| walk_at "subscriptTail Name BinOp ref int") => `(tactic| (k_here; (with_reducible show wpAny _ _ (subscriptTail _ _ (Value.ref _) (Value.int _ _)) _ _ _); k_dflt (refine' item_pred ?N ?m ?i ?x ?_ ?s; (case N => k_asm); (case m => k_mem); (case i => omega); (case x => assumption); (case s => with_unfolding_all rfl); k_whole)))
local macro_rules | `(tactic| walk_at "subscriptTail Subscript Name Name Constant ref int") => `(tactic| (k_here; (with_reducible show wpAny _ _ (subscriptTail _ _ (Value.ref _) (Value.int _ _)) _ _ _); k_dflt (refine' item_tup ?N ?m ?lo ?hi ?hj ?hx ?_ ?s; (case N => k_asm); (case m => k_mem); (case lo => decide); (case hi => decide); (case hj => exact rfl); (case hx => exact rfl); (case s => with_unfolding_all rfl); k_whole)))
local macro_rules | `(tactic| walk_at "setItem ref int") => `(tactic| (k_here; (with_reducible show wpAny _ _ (PySem.setItem (Value.ref _) (Value.int _ _) (Value.str _ _)) _ _ _); k_dflt (refine' set_last ?F ?N ?U ?_; (case F => k_asm); (case N => k_asm); (case U => walk_at "my upd"); k_whole); intro h' F' N'; (try k_sweep)))
theorem fill14 : ∀ (w : World) (h : Heap), (hd.heap_39 w.params).In h → PySem.Challenge.rw_fe0297_01.row.prog = PySem.Challenge.rw_fe0297_01.row.prog → True := by
  k_fill
  intros
  trivial

local macro_rules | `(tactic| walk_at "binaryOp Add str str") => `(tactic| (k_here; k_dflt (first
  | ((with_reducible show wpAny _ _ (binaryOp _ (Value.str ⟨List.toArray _⟩ _) (Value.str ⟨List.toArray _⟩ _)) _ _ _); refine add_sg rfl (by assumption) ?_; intro _ _)
  | ((with_reducible show wpAny _ _ (binaryOp _ (Value.str ⟨List.toArray _⟩ _) (Value.str (Str.ofString _) _)) _ _ _); refine add_sg (b := [32]) (by decide) (by simp; omega) ?_; intro _ _)
  | ((with_reducible show wpAny _ _ (binaryOp _ (Value.str (Str.ofString " ") _) (Value.str ⟨List.toArray _⟩ _)) _ _ _); refine add_gs (a := [32]) (by decide) (by simp; omega) ?_; intro _ _)
  | ((with_reducible show wpAny _ _ (binaryOp _ (Value.str (Str.ofString "") _) (Value.str ⟨List.toArray _⟩ _)) _ _ _); refine add_gs (a := []) (by decide) (by simp; omega) ?_; intro _ _))))
/-- the loop of _law_chopped -/
def LcJ (l : List Nat) (wd : Nat) (t u : Tok) (s : Shared) (base : List (Addr × Obj)) (ln : Addr) (k : Nat) (m : Str → Option Value) (rest : List (Addr × Obj)) (gs : Array GenState) : Prop :=
  ∃ (vs2 : List Value) (kk used : Nat) (cur : List Nat) (done : List (List Nat)) (uu tc : Tok), gs = s.gens ∧ rest = (ln, listOf (vs2 ++ [Value.str ⟨cur.toArray⟩ tc]).toArray kk) :: base ∧ Knows [(Str.ofString "used", .int (used : Nat) uu), (Str.ofString "lines", .ref ln), (Str.ofString "made", .str ⟨l.toArray⟩ t), (Str.ofString "width", .int (wd : Nat) u)] m ∧
    DatAll [] vs2 (done.map ldat) ∧ done ++ chop l wd ((pcs l).drop k) cur used = chop l wd (pcs l) [] 0 ∧ used ≤ Psum (pcs l) k ∧ cur.length ≤ 100 * k ∧ done.length ≤ k
theorem lc_next {l : List Nat} {wd : Nat} {t u uu tc : Tok} {s : Shared} {base nw : List (Addr × Obj)} {g h' : Heap} {L I ln : Addr} {oI : Obj} {m' : Str → Option Value} {vs2 : List Value} {kk tk k : Nat} {z : Int} {cur : List Nat} (F : Fr g L h' m') (N : News g L h' nw) (hs : ∀ p ∈ (I, oI) :: (ln, listOf (vs2 ++ [Value.str ⟨cur.toArray⟩ tc]).toArray kk) :: base, p ∈ nw) (hl : ln ≠ I) (hr : ∀ p ∈ base, p.1 ≠ I)
    (hk : Knows [(Str.ofString "used", .int z uu), (Str.ofString "lines", .ref ln), (Str.ofString "made", .str ⟨l.toArray⟩ t), (Str.ofString "width", .int (wd : Nat) u)] m') (used : Nat) (done : List (List Nat)) (hz : z = (used : Nat)) (hd : DatAll [] vs2 (done.map ldat)) (he : done ++ chop l wd ((pcs l).drop (k + 1)) cur used = chop l wd (pcs l) [] 0) (hu : used ≤ Psum (pcs l) (k + 1)) (hc : cur.length ≤ 100 * (k + 1)) (hdl : done.length ≤ k + 1) :
    ForNext g L I oI (LcJ l wd t u s base ln (k + 1)) s.drawn s.os ⟨h', s.gens, s.drawn, tk, s.os⟩ := by
  subst hz
  exact ForNext.intro _ F N hs (List.forall_mem_cons.mpr ⟨hl, hr⟩) ⟨vs2, kk, used, cur, done, uu, tc, rfl, rfl, hk, hd, he, hu, hc, hdl⟩
theorem lchop_gives (w : World) {l : List Nat} (hn : l.length < 100) {wd : Nat} {t u : Tok} {pl : Addr} {vs : List Value} {k1 : Nat} {tl : List (Addr × Obj)} (hdat : DatAll tl vs ((pcs l).map sdat)) :
    Raw PySem.Challenge.rw_fe0297_01.row.prog w (hd.heap_39 w.params) 271 ((pl, listOf vs.toArray k1) :: tl) [.str ⟨l.toArray⟩ t, .ref pl, .int (wd : Nat) u] 10 60
    (Keep ((pl, listOf vs.toArray k1) :: tl) fun tl r => ∃ D vs2 kk, r = .ref D ∧ tl = [(D, listOf vs2.toArray kk)] ∧ DatAll [] vs2 ((chop l wd (pcs l) [] 0).map ldat)) := by
  refine raw_of [(Str.ofString "made", .str ⟨l.toArray⟩ t), (Str.ofString "pieces", .ref pl), (Str.ofString "width", .int (wd : Nat) u)] (by k_is) (by k_is) (fun s X => BindsTo.of_eq rfl) (locs rfl) (by decide) rfl rfl rfl ?_
  intro dp un gd outer g L mg mb p loose s F X N T hd hu
  have hT1 := total_le l
  have hpl := pcs_length l
  have hvl : vs.length = (pcs l).length := by rw [hdat.length, List.length_map]
  replace F : Fr g L s.heap (fun y => List.lookup y [(Str.ofString "width", .int (wd : Nat) u), (Str.ofString "pieces", .ref pl), (Str.ofString "made", .str ⟨l.toArray⟩ t)]) := F
  show wpAny _ _ _ _ _ _
  k_fold
  k_steps
  refine Halt.out ?_
  have hemp : Str.ofString "" = ⟨([] : List Nat).toArray⟩ := by decide
  rename Fr _ _ _ _ => F2
  rename News _ _ _ _ => N2
  rw [hemp] at N2
  rename_i ln h5 lt h4 h3
  have hlp : @Ne Nat ln pl := Nat.ne_of_gt lt.1
  have hoff : ∀ p ∈ (pl, listOf vs.toArray k1) :: tl, p.1 ≠ ln := List.forall_mem_cons.mpr ⟨Ne.symm hlp, all_lt lt.2⟩
  clear lt
  refine For_led ?_
  k_steps
  refine iter_list (l := pl) (items := vs.toArray) (k := k1) (LcJ l wd t u s ((pl, listOf vs.toArray k1) :: tl) ln) rfl F2 N2 ⟨[], _, 0, [], [], _, _, rfl, rfl, by walk_at "knows", DatAll.nil, rfl, Nat.zero_le _, Nat.zero_le _, Nat.le_refl _⟩ ?_ (.inr ⟨⟨_, _, _, rfl⟩, ?_⟩) ?_ ?_
  · rintro j m rest gs h ⟨vs2, kk, used, cur, done, uu, tc, rfl, rfl, _⟩ F3 N3
    exact (N3 _ (.tail _ (.head _))).1
  · intro j v hv
    obtain ⟨q, a, kn, t1, t2, t3, e1, rfl, e3⟩ := dat_at hdat (by simpa using hv)
    exact ⟨_, rfl⟩
  · rintro j v I m rest gs oI h tk hv ⟨vs2, kk, used, cur, done, uu, tc, rfl, rfl, hk, hds, hE, hup, hcl, hdl⟩ hr F3 N3
    obtain ⟨⟨st, en, sz⟩, a, kn, t1, t2, t3, e1, rfl, e3⟩ := dat_at hdat (by simpa using hv)
    have hb := pcs_bound (List.mem_of_getElem? e1)
    replace hb : st ≤ en ∧ en ≤ l.length := hb
    have hP : Psum (pcs l) (j + 1) = Psum (pcs l) j + sz := Psum_succ e1
    have hjl : j < (pcs l).length := by
      rcases Nat.lt_or_ge j (pcs l).length with h | h
      · exact h
      · rw [List.getElem?_eq_none h] at e1; cases e1
    have hij : st ≤ en := hb.1
    have henl : en ≤ l.length := hb.2
    have hv2 : vs2.length < 1000 := by rw [hds.length, List.length_map]; omega
    have hv3 : (vs2 ++ [Value.str ⟨cur.toArray⟩ tc]).length < 2000 := by rw [List.length_append, List.length_singleton]; omega
    have hpa : ((l.drop st).take (en - st)).length < 100 := by rw [List.length_take, List.length_drop]; omega
    have hz1 : cur.length + ((l.drop st).take (en - st)).length < 2 ^ 20 := by omega
    have hz2 : ([] : List Nat).length + ((l.drop st).take (en - st)).length < 2 ^ 20 := by simp only [List.length_nil]; omega
    replace F3 := fr_kn _ F3 hk
    replace N3 : News g L h ((a, tup3 (st : Nat) (en : Nat) (sz : Nat) t1 t2 t3 kn) :: (I, oI) :: (ln, listOf (vs2 ++ [Value.str ⟨cur.toArray⟩ tc]).toArray kk) :: (pl, listOf vs.toArray k1) :: tl) := List.forall_mem_cons.mpr ⟨N3 _ (.tail _ (.tail _ (.tail _ e3))), N3⟩
    have hln : ln ≠ I := hr _ (.head _)
    have hnl : @Ne Nat I ln := Ne.symm hln
    have hal : @Ne Nat a ln := hoff _ (.tail _ e3)
    have hrb : ∀ p ∈ (pl, listOf vs.toArray k1) :: tl, p.1 ≠ I := fun p hp => hr p (.tail _ hp)
    have hpart : part l (st, en, sz) = (l.drop st).take (en - st) := rfl
    have hsize : size ((st, en, sz) : Span) = sz := rfl
    rw [drop_cons_at e1, chop, hpart, hsize] at hE
    clear F2 N2 hk
    by_cases hov : wd < used + sz
    · have hoI : decide (((used : Nat) : Int) + ((sz : Nat) : Int) > ((wd : Nat) : Int)) = true := decide_eq_true (by omega)
      rw [if_pos hov] at hE
      show wpAny _ _ _ _ _ _
      k_fold
      k_steps
      have e0 : (Str.ofString "").cps.toList = [] := by decide
      exact lc_next (by assumption) (by assumption) (by walk_at "news in") hln hrb (by walk_at "knows") sz (done ++ [cur]) (by omega) (dats_str hds) (by rw [e0, List.nil_append, List.append_assoc]; exact hE) (by omega) (by rw [e0, List.nil_append]; omega) (by rw [List.length_append, List.length_singleton]; omega)
    · have hoI : decide (((used : Nat) : Int) + ((sz : Nat) : Int) > ((wd : Nat) : Int)) = false := decide_eq_false (by omega)
      rw [if_neg hov] at hE
      show wpAny _ _ _ _ _ _
      k_fold
      k_steps
      exact lc_next (by assumption) (by assumption) (by walk_at "news in") hln hrb (by walk_at "knows") (used + sz) done (by omega) hds hE (by omega) (by rw [List.length_append]; omega) (by omega)
  · rintro m rest gs h tk ⟨vs2, kk, used, cur, done, uu, tc, rfl, rfl, hk, hds, hE, hup, hcl, hdl⟩ F3 N3
    replace F3 := fr_kn _ F3 hk
    clear F2 N2 hk
    rw [List.size_toArray, hvl, List.drop_length, chop] at hE
    show wpAny _ _ _ _ _ _
    k_fold
    k_steps
    refine RetP.intro [(ln, _)] F3 N3 (by walk_at "news in") ⟨ln, _, _, rfl, rfl, ?_⟩
    rw [← hE]
    exact dats_str hds
end Mine
namespace Mine
open PySem PySem.Spec PySem.Calls PyProof.Rows PySem.W
local macro_rules | `(tactic| walk_at "news in") => `(tactic| first | (with_reducible exact sub_self) | (with_reducible exact sub_nil) | ((with_reducible refine sub_cons ?a1 ?a2); (case a1 => k_mem); (case a2 => walk_at "news in")) | ((with_reducible refine sub_app ?a1 ?a2); (case a1 => walk_at "news in"); (case a2 => walk_at "news in")) | ((with_reducible refine sub_skip ?_); walk_at "news in") | ((with_reducible refine sub_appL ?_); walk_at "news in") | ((with_reducible refine sub_appR ?_); walk_at "news in"))
local macro_rules | `(tactic| k_room) => `(tactic| ktr_room)
local macro_rules | `(tactic| walk_at "my room") => `(tactic| ((try dsimp only); first | ktr_room | omega))
local macro_rules | `(tactic| walk_at "my units") => `(tactic| ((try dsimp only); first | ktr_units | omega))
local macro_rules | `(tactic| walk_at "my given") => `(tactic| ((case hh => first | exact rfl | assumption); (case F => k_asm); (case X => k_asm); (case N => k_asm); (case T => k_asm); (case hs => walk_at "news in"); (case hd => walk_at "my room"); (case hu => walk_at "my units")))
local macro_rules | `(tactic| walk_at "getMethod type:tuple") => `(tactic| (k_here; refine' method_type ?F ?X ?m (by decide +kernel) ?e ?h ?_; (case F => k_asm); (case X => k_asm); (case m => exact meta_tuple'); (case e => k_dflt k_is); (case h => k_handed)))
local macro_rules | `(tactic| walk_at "ForPost") => `(tactic| dsimp only [ForPost])
local macro_rules | `(tactic| walk_at "WhilePost") => `(tactic| dsimp only [WhilePost])
local macro_rules | `(tactic| walk_at "knows") => `(tactic| first | exact kn_nil | (refine kn_cons ?a1 ?a2; (case a1 => first | with_reducible assumption | exact rfl | with_unfolding_all exact rfl); (case a2 => walk_at "knows")))
local macro_rules | `(tactic| walk_at "WhileEnd") => `(tactic| dsimp only [WhileEnd])
local macro_rules | `(tactic| k_ne) => `(tactic| (refine neN ?_; (try dsimp only); (repeat (with_reducible rename _ ∧ _ => hcj; cases hcj)); first | assumption | (refine Ne.symm ?_; assumption) | exact Nat.ne_of_lt (by assumption) | exact Nat.ne_of_gt (by assumption) | ((repeat (with_reducible rename _ ≠ _ => hx9; clear hx9)); omega)))
section
variable {prog : Program} {w : World} {A : Around} {E : Value → Shared → Prop} {s : Shared} {h₀ : Heap} {L D : Addr} {m : Str → Option Value} {news : List (Addr × Obj)} {vs : List Value} {n : Nat} {t u ui uj : Tok} {Q : Value → Shared → Prop} {value slice : PySem.Expr} {o : Obj}
/-- the script's first items -/
theorem cut_base {j : Nat} (F : Fr h₀ L s.heap m) (N : News h₀ L s.heap news) (hz : h₀.IsList D vs.toArray) (hl : vs.length < 2 ^ 20)
    (h : ∀ D' h', Fr h₀ L h' m → News h₀ L h' ((D', listOf (vs.take j).toArray 0) :: news) → (∀ p ∈ news, p.1 < D') → Q (.ref D') { s with heap := h' })
    (hs : subscripted slice false (.ref D) (.ref s.heap.objs.size) = operate [.ref s.heap.objs.size, .ref D] (getItem (.ref D) (.ref s.heap.objs.size)) := by with_unfolding_all rfl) (ht : ∀ r, letTemporaryGo value (.ref D) r = pure () := by intro _; with_unfolding_all rfl) :
    wpAny (model prog w) A (subscriptTail value slice (.ref D) (.ref s.heap.objs.size)) Q E { s with heap := s.heap.push { cls := .type "slice", data := .fields #[.none, .int (j : Nat) uj, .none] } } := by
  obtain ⟨o, e, r⟩ := hz
  refine kmk_slice F N ⟨o, F.keep _ _ e, r⟩ (lo := none) (hi := some (j : Int)) .none (.int _ _) ?_ hs ht (by rw [List.size_toArray, sizeLine_eq]; omega)
  rw [pick_le]
  exact h
end
/-- RawB where more is known of what lies below -/
def RawZ (prog : Program) (w : World) (K : Frag) (Z : Heap → Prop) (f : Addr) (pre : List (Addr × Obj)) (vs : List Value) (D U : Nat) (Out : Out4) : Prop :=
  ∀ (A : Around) (mg mb : Str → Option Value) (p : Program) (loose : List Str) (s : Shared) (Q E : Value → Shared → Prop),
    Z (hideAll s.heap (pre.map (·.1))) → BM mg (hideAll s.heap (pre.map (·.1))) → A.handled = none → K.In (hideAll s.heap (pre.map (·.1))) → TopRead p loose mg mb (hideAll s.heap (pre.map (·.1))) → (∀ q ∈ pre, s.heap.get? q.1 = some q.2) → A.depth + D < recursionLimit → A.units + U < cLine →
    (∀ r nw h' tk' gs', (∀ b o, (hideAll s.heap (pre.map (·.1))).get? b = some o → h'.get? b = some o) → (∀ q ∈ nw, h'.get? q.1 = some q.2 ∧ (hideAll s.heap (pre.map (·.1))).get? q.1 = none) →
      Out s.gens nw gs' r → Q r { s with heap := h', toks := tk', gens := gs' }) →
    wpAny (model prog w) A (call (.ref f) vs) Q E s
theorem rawZ_ofC {prog : Program} {w : World} {K : Frag} {Z : Heap → Prop} {f : Addr} {pre : List (Addr × Obj)} {vs : List Value} {D U : Nat} {Out : Out4}
    {name qual : Str} {params : Arguments} {body : List Stmt} {scope : Scope} {dV kV doc pm cdv ct oc : Value} {an od : Option Addr} {osl : Array (Option Value)} (binds : List (Str × Value))
    (ho : K.lookup f = some ⟨oc, od, .func (fnOf name qual params body scope dV kV doc pm an cdv ct), osl⟩) (hcd : codeIn K cdv qual = true)
    (hbind : ∀ s : Shared, K.In s.heap → BindsTo s (fnOf name qual params body scope dV kV doc pm an cdv ct) ⟨vs, []⟩ binds)
    (hkind : ∀ n, ∀ x ∈ binds, scope.names.lookup x.1 = some .local ∨ (scope.names.lookup x.1 = some .cell ∧ ((cellsFrom n scope.names []).lookup x.1).isSome = true))
    (hnd : ((cellsFrom 0 scope.names []).map (·.1)).Nodup) (hco : scope.isCoroutine = false) (hgen : scope.isGenerator = false) (hk : scope.kind = .function)
    (h : ∀ (dp un : Nat) (gd : Option (List Code)) (outer : List Env) (g : Heap) (L : Addr) (mg mb : Str → Option Value) (p : Program) (loose : List Str) (s : Shared) (cells : List (Addr × Obj)),
      Z g → Fr g L s.heap (bindL (envOfC qual scope L f cdv).kindOf binds fun _ => none) → K.In g → News g L s.heap (cells ++ pre) → CellsAre (bindC (envOfC qual scope L f cdv).kindOf binds fun _ => none) (cellsFrom (L + 1) scope.names []) cells →
      (∀ q ∈ pre, q.1 < L) → TopRead p loose mg mb g → BM mg g → dp + D < recursionLimit → un + U < cLine →
      wpAny (model prog w) (ktrTop dp un gd qual scope L f cdv (cellsFrom (L + 1) scope.names []) outer) (execs body (envX qual scope L f cdv (cellsFrom (L + 1) scope.names []))) (RetP g L s Out) FF s) :
    RawZ prog w K Z f pre vs (D + 1) (U + 3) Out := by
  intro A mg mb p loose s Q E hZ BMh hh X T hpre hd hu ret
  have R : RawB prog w K f pre vs (D + 1) (U + 3) (fun gs nw gs' r => Z (hideAll s.heap (pre.map (·.1))) → Out gs nw gs' r) → True := fun _ => trivial
  clear R
  obtain ⟨hd', dp, fr, gd, un⟩ := A
  replace hh : hd' = none := hh
  subst hh
  replace hd : dp + (D + 1) < recursionLimit := hd
  replace hu : un + (U + 3) < cLine := hu
  have up : ∀ b o, (hideAll s.heap (pre.map (·.1))).get? b = some o → s.heap.get? b = some o := fun b o e => of_hideAll _ e
  refine wpAny_call (codeAny_frames fun l => ?_)
  refine codeAny_call_function (show dp < recursionLimit by omega) (up _ _ (X _ _ ho)) rfl hco hgen rfl (codeRec_of (X.keeps up) hcd) (hbind s (X.keeps up) _ _ _ _ ?_)
  refine wpAny_newFunctionEnv_cells hk (hkind _) fun env' he s' x => ?_
  subst he
  refine ⟨(T.nolimit.keeps up).keeps x.toInCall.keep, codeAny_func ?_⟩
  obtain ⟨h₁, tk, rfl, _⟩ := x.done
  have hk₁ := x.toInCall.keep
  obtain ⟨cells, NC, Y⟩ := Cl.news (h₀ := s.heap) (Nat.le_refl _) fun n c hm => ⟨x.cell n c (lookup_of_mem_nodup (cellsFrom_names scope.names 0 (s.heap.objs.size + 1) [] [] rfl ▸ hnd) hm), x.above n c hm⟩
  refine wpAny_mono (h (dp + 1) (un + 3) gd l (hideAll s.heap (pre.map (·.1))) s.heap.objs.size mg mb p loose { s with heap := h₁, toks := tk } cells hZ
    ⟨x.toInCall.ns, fun b o e => hk₁ b o (of_hideAll _ e), Nat.le_of_eq (hideAll_size _ _)⟩ X (fun q hq => ?_) Y (fun q hq => Heap.lt_size (hpre q hq)) T BMh (by omega) (by omega)) (fun fl s' hr => ?_) (fun _ _ z => z.elim)
  · rcases List.mem_append.mp hq with hq | hq
    · refine ⟨(NC q hq).1, (NC q hq).2.1, ?_⟩
      cases e : (hideAll s.heap (pre.map (·.1))).get? q.1 with
      | none => rfl
      | some o => have := of_hideAll _ e; rw [(NC q hq).2.2] at this; cases this
    · exact ⟨hk₁ _ _ (hpre q hq), Nat.ne_of_lt (Heap.lt_size (hpre q hq)), hideAll_none _ (List.mem_map_of_mem hq)⟩
  · obtain ⟨nw, h', tk', gs', m', rfl, F2, N2, hO⟩ := hr
    exact ret _ nw h' tk' gs' F2.keep (fun q hq => ⟨(N2 q hq).1, (N2 q hq).2.2⟩) hO
local macro_rules | `(tactic| walk_at "exec For Name Call cons nil") => `(tactic| refine halt ?_)
local macro_rules | `(tactic| walk_at "exec For Tuple Name cons nil") => `(tactic| refine halt ?_)
local macro_rules | `(tactic| walk_at "exec For Tuple Name cons cons") => `(tactic| refine halt ?_)
local macro_rules | `(tactic| walk_at "call builtin:len") => `(tactic| (k_here; (with_reducible show wpAny _ _ (call (Value.builtin "len") [Value.str ⟨List.toArray _⟩ _]) _ _ _); k_dflt (refine len_sg (by omega) ?_; intro u' tk')))
local macro_rules | `(tactic| walk_at "subscriptTail") => `(tactic| (k_here; (with_reducible show wpAny _ _ (subscriptTail _ _ (Value.str ⟨List.toArray _⟩ _) (Value.int (Nat.cast _) _)) _ _ _); k_dflt (refine item_sg (by omega) (by assumption) ?_; intro u' tk')))
local macro_rules | `(tactic| walk_at "subscriptTail Name Name str int") => `(tactic| (k_here; (with_reducible show wpAny _ _ (subscriptTail _ _ (Value.str ⟨List.toArray _⟩ _) (Value.int (Nat.cast _) _)) _ _ _); k_dflt (refine item_sg (by omega) (by assumption) ?_; intro u' tk')))
local macro_rules | `(tactic| walk_at "subscriptTail") => `(tactic| (k_here; (with_reducible show wpAny _ _ (subscriptTail _ _ (Value.ref _) (Value.int _ _)) _ _ _); k_dflt (refine' item_last ?N ?m ?_ ?s; (case N => k_asm); (case m => k_mem); (case s => with_unfolding_all rfl); k_whole)))
local macro_rules | `(tactic| walk_at "subscriptTail Name UnaryOp ref int") => `(tactic| (k_here; (with_reducible show wpAny _ _ (subscriptTail _ _ (Value.ref _) (Value.int _ _)) _ _ _); k_dflt (refine' item_last ?N ?m ?_ ?s; (case N => k_asm); (case m => k_mem); (case s => with_unfolding_all rfl); k_whole)))
local macro_rules | `(tactic| walk_at "subscriptTail Name Constant ref int") => `(tactic| (k_here; (with_reducible show wpAny _ _ (subscriptTail _ _ (Value.ref _) (Value.int _ _)) _ _ _); k_dflt (refine' item_last ?N ?m ?_ ?s; (case N => k_asm); (case m => k_mem); (case s => with_unfolding_all rfl); k_whole)))
local macro_rules | `(tactic| walk_at "my upd") => `(tactic| first | exact Upd.head (by assumption) | (refine' Upd.tail ?a ?b; (case a => k_ne); (case b => walk_at "my upd")))
local macro_rules | `(tactic| walk_at "setItem ref int") => `(tactic| (k_here; (with_reducible show wpAny _ _ (PySem.setItem (Value.ref _) (Value.int _ _) (Value.ref _)) _ _ _); k_dflt (refine' set_last ?F ?N ?U ?_; (case F => k_asm); (case N => k_asm); (case U => walk_at "my upd"); k_whole); intro h' F' N'; (try k_sweep)))
local macro_rules | `(tactic| walk_at "setItem ref int ref") => `(tactic| (k_here; (with_reducible show wpAny _ _ (PySem.setItem (Value.ref _) (Value.int _ _) (Value.ref _)) _ _ _); k_dflt (refine' set_last ?F ?N ?U ?_; (case F => k_asm); (case N => k_asm); (case U => walk_at "my upd"); k_whole); intro h' F' N'; (try k_sweep)))
local macro_rules | `(tactic| walk_at "call builtin:list.append") => `(tactic| (k_here; (with_reducible show wpAny _ _ (call (Value.builtin _) [Value.ref _, _]) _ _ _); k_dflt (refine' append_l ?F ?N ?U ?_ ?z; (case F => k_asm); (case N => k_asm); (case U => walk_at "my upd"); (case z => first | assumption | (simp; done) | (simp; omega)); k_whole); intro h' F' N'; (try k_sweep)))
local macro_rules | `(tactic| walk_at "truthy ref") => `(tactic| (k_here; (with_reducible show wpAny _ _ (truthy (Value.ref _)) _ _ _); k_dflt (refine' truthy_snoc ?N ?m ?z ?_; (case N => k_asm); (case m => k_mem); (case z => first | assumption | omega); k_whole; intro tk')))
local macro_rules | `(tactic| walk_at "subscriptTail Name Slice str ref") => `(tactic| (k_here; (with_reducible show wpAny _ _ (subscriptTail _ (Expr.Slice none (some _) none _) (Value.str ⟨List.toArray _⟩ _) _) _ _ _); (with_reducible rename Fr _ _ _ _ => F'); (with_reducible rename News _ _ _ _ => N'); k_dflt (refine' cut_to (s := ⟨_, _, _, _, _⟩) F' N' ?z ?j ?_ ?s ?t; (case s => with_unfolding_all rfl); (case t => intro _; with_unfolding_all rfl); (case z => omega); (case j => first | assumption | omega)); intro _ _ _ _ _; (try k_sweep)))
local macro_rules | `(tactic| walk_at "subscriptTail Name Slice str ref") => `(tactic| (k_here; (with_reducible show wpAny _ _ (subscriptTail _ (Expr.Slice (some _) none none _) (Value.str ⟨List.toArray _⟩ _) _) _ _ _); (with_reducible rename Fr _ _ _ _ => F'); (with_reducible rename News _ _ _ _ => N'); k_dflt (refine' cut_from (s := ⟨_, _, _, _, _⟩) F' N' ?z ?j ?_ ?s ?t; (case s => with_unfolding_all rfl); (case t => intro _; with_unfolding_all rfl); (case z => omega); (case j => first | assumption | omega)); intro _ _ _ _ _; (try k_sweep)))
local macro_rules | `(tactic| walk_at "subscriptTail Name Slice str ref") => `(tactic| (k_here; (with_reducible show wpAny _ _ (subscriptTail _ (Expr.Slice (some _) (some _) none _) (Value.str ⟨List.toArray _⟩ _) _) _ _ _); (with_reducible rename Fr _ _ _ _ => F'); (with_reducible rename News _ _ _ _ => N'); k_dflt (refine' cut_mid (s := ⟨_, _, _, _, _⟩) F' N' ?z ?i ?j ?_ ?s ?t; (case s => with_unfolding_all rfl); (case t => intro _; with_unfolding_all rfl); (case z => omega); (case i => first | assumption | omega); (case j => first | assumption | omega)); intro _ _ _ _ _; (try k_sweep)))
local macro_rules | `(tactic| walk_at "subscriptTail Name Slice ref ref") => `(tactic| (k_here; (with_reducible show wpAny _ _ (subscriptTail _ (Expr.Slice none (some _) none _) (Value.ref _) _) _ _ _); (with_reducible rename Fr _ _ _ _ => F'); (with_reducible rename News _ _ _ _ => N'); k_dflt (refine' cut_list (s := ⟨_, _, _, _, _⟩) F' N' ?m ?z ?j ?_ ?s ?t; (case m => k_mem); (case s => with_unfolding_all rfl); (case t => intro _; with_unfolding_all rfl); (case z => first | assumption | omega); (case j => first | assumption | omega)); intro D' h' F' N' l1; (try k_lt l1); (try k_sweep)))
local macro_rules | `(tactic| walk_at "call builtin:len") => `(tactic| (k_here; (with_reducible show wpAny _ _ (call (Value.builtin "len") [Value.ref _]) _ _ _); k_dflt (refine' len_l ?N ?m ?z ?_; (case N => k_asm); (case m => k_mem); (case z => first | assumption | omega); k_whole); intro u' tk'))
local macro_rules | `(tactic| walk_at "binaryOp FloorDiv int int") => `(tactic| (k_here; k_dflt (refine' fdiv_nat ?a ?b ?_; (case a => omega); (case b => omega); k_whole); intro u' tk'))
local macro_rules | `(tactic| walk_at "subscriptTail Name Name ref int") => `(tactic| (k_here; (with_reducible show wpAny _ _ (subscriptTail _ _ (Value.ref _) (Value.int (Nat.cast _) _)) _ _ _); k_dflt (refine' item_nth ?N ?m ?i ?x ?_ ?s; (case N => k_asm); (case m => k_mem); (case i => omega); (case x => assumption); (case s => with_unfolding_all rfl); k_whole)))
local macro_rules | `(tactic| walk_at "subscriptTail Name BinOp ref int") => `(tactic| (k_here; (with_reducible show wpAny _ _ (subscriptTail _ _ (Value.ref _) (Value.int _ _)) _ _ _); k_dflt (refine' item_pred ?N ?m ?i ?x ?_ ?s; (case N => k_asm); (case m => k_mem); (case i => omega); (case x => assumption); (case s => with_unfolding_all rfl); k_whole)))
local macro_rules | `(tactic| walk_at "subscriptTail Subscript Name Name Constant ref int") => `(tactic| (k_here; (with_reducible show wpAny _ _ (subscriptTail _ _ (Value.ref _) (Value.int _ _)) _ _ _); k_dflt (refine' item_tup ?N ?m ?lo ?hi ?hj ?hx ?_ ?s; (case N => k_asm); (case m => k_mem); (case lo => decide); (case hi => decide); (case hj => exact rfl); (case hx => exact rfl); (case s => with_unfolding_all rfl); k_whole)))
local macro_rules | `(tactic| walk_at "binaryOp Add str str") => `(tactic| (k_here; k_dflt (first
  | ((with_reducible show wpAny _ _ (binaryOp _ (Value.str ⟨List.toArray _⟩ _) (Value.str (Str.ofString _) _)) _ _ _); refine add_sg (b := [32]) (by decide) (by simp; omega) ?_; intro _ _)
  | ((with_reducible show wpAny _ _ (binaryOp _ (Value.str (Str.ofString _) _) (Value.str ⟨List.toArray _⟩ _)) _ _ _); refine add_gs (a := [32]) (by decide) (by simp; omega) ?_; intro _ _))))
local macro_rules | `(tactic| walk_at "eval ListComp") => `(tactic| refine halt ?_)
local macro_rules | `(tactic| walk_at "eval GeneratorExp") => `(tactic| refine halt ?_)
local macro_rules | `(tactic| walk_at "call builtin:sum") => `(tactic| refine halt ?_)
local macro_rules | `(tactic| walk_at "call ref") => `(tactic| refine halt ?_)
local macro_rules | `(tactic| walk_at "compareOp NotEq ref ref") => `(tactic| refine halt ?_)
local macro_rules | `(tactic| walk_at "compareOp Eq ref ref") => `(tactic| refine halt ?_)
local macro_rules | `(tactic| walk_at "subscriptTail Name Slice ref ref") => `(tactic| (k_here; (with_reducible show wpAny _ _ (subscriptTail _ (Expr.Slice none (some _) none _) (Value.ref _) _) _ _ _); (with_reducible rename Fr _ _ _ _ => F'); (with_reducible rename News _ _ _ _ => N'); k_dflt (refine' cut_base (j := 60) (s := ⟨_, _, _, _, _⟩) F' N' ?m ?z ?_ ?s ?t; (case m => assumption); (case s => with_unfolding_all rfl); (case t => intro _; with_unfolding_all rfl); (case z => first | assumption | omega)); intro D' h' F' N' l1; (try k_lt l1); (try k_sweep)))
theorem fill15 : ∀ (w : World) (h : Heap), (hd.heap_39 w.params).In h → PySem.Challenge.rw_fe0297_01.row.prog = PySem.Challenge.rw_fe0297_01.row.prog → True := by
  k_fill
  intros
  trivial

theorem sub_none {D : Addr} : ∀ p ∈ ([] : List (Addr × Obj)), p.1 ≠ D := fun _ h => nomatch h
local macro_rules | `(tactic| walk_at "my off") => `(tactic| first | assumption | exact sub_none | (refine List.forall_mem_cons.mpr ⟨?_, ?_⟩; (rotate_left; walk_at "my off"); k_ne))
local macro_rules | `(tactic| walk_at "my upd") => `(tactic| first | (refine' Upd.head ?a; (case a => walk_at "my off")) | (refine' Upd.tail ?a ?b; (case a => k_ne); (case b => walk_at "my upd")))
local macro_rules | `(tactic| walk_at "my updF") => `(tactic| first | (refine' UpdF.head ?a; (case a => walk_at "my off")) | (refine' UpdF.tail ?a ?b; (case a => k_ne); (case b => walk_at "my updF")))
local macro_rules | `(tactic| walk_at "storeName") => `(tactic| (k_here; k_dflt (refine' storeX_C ?F ?N ?c ?U ?d ?_ ?a ?b; (case a => rfl); (case b => rfl); (case F => k_asm); (case N => k_asm); (case c => rfl); (case U => walk_at "my updF"); (case d => assumption); k_whole; intro h' o' F' N' d'; (try dsimp only at N'); (try k_sweep))))

theorem item_kind {prog : Program} {w : World} {A : Around} {E : Value → Shared → Prop} {s : Shared} {h₀ : Heap} {L D : Addr} {news : List (Addr × Obj)} {KV : List Value} {n v : Nat} {u : Tok} {Q : Value → Shared → Prop} {value slice : PySem.Expr} (N : News h₀ L s.heap news) (hm : (D, listOf KV.toArray n) ∈ news) (HK : ∀ v, v < 8 → ∃ c t, KV[v]? = some (Value.str ⟨#[c]⟩ t) ∧ Made c) (hv : v < 8) (h : ∀ c t, Made c → Q (.str ⟨#[c]⟩ t) s)
    (hs : subscripted slice false (.ref D) (.int (v : Nat) u) = operate [.ref D, .int (v : Nat) u] (getItem (.ref D) (.int (v : Nat) u)) := by with_unfolding_all rfl) : wpAny (model prog w) A (subscriptTail value slice (.ref D) (.int (v : Nat) u)) Q E s := by
  obtain ⟨c, t, e, hM⟩ := HK v hv
  exact item_nth N hm (by omega) e (h c t hM) hs
local macro_rules | `(tactic| walk_at "subscriptTail Name Call ref int") => `(tactic| (k_here; k_dflt (refine' item_kind ?N ?m ?H ?v ?_ ?s; (case H => assumption); (case v => assumption); (case N => k_asm); (case m => k_mem); (case s => with_unfolding_all rfl); k_whole); intro c' t' hc'))
local macro_rules | `(tactic| walk_at "binaryOp Add str str") => `(tactic| (k_here; k_dflt (first
  | ((with_reducible show wpAny _ _ (binaryOp _ (Value.str ⟨List.toArray _⟩ _) (Value.str (Str.ofString _) _)) _ _ _); refine add_sg (b := [97]) (by decide) (by simp; omega) ?_; intro _ _)
  | (refine add_sg (b := [_]) rfl (by simp; omega) ?_; intro _ _))))
/-- the loop of law that makes the text -/
def MkJ (s : Shared) (L c0 st kd : Addr) (vs KV : List Value) (base : List (Addr × Obj)) (i : Nat) (m : Str → Option Value) (rest : List (Addr × Obj)) (gs : Array GenState) : Prop :=
  ∃ (l : List Nat) (tp tm : Tok) (om : Obj), gs = s.gens ∧ rest = (st, listOf [Value.ref c0, .int ((1 + i : Nat) : Int) tp].toArray 0) :: (c0, listOf (vs.take 60).toArray 0) :: (kd, listOf KV.toArray 0) :: (L + 1, om) :: base ∧ Knows [(Str.ofString "state", .ref st), (Str.ofString "kinds", .ref kd)] m ∧ om.data = .cell (some (.str ⟨l.toArray⟩ tm)) ∧
    l.length = i ∧ (∀ c ∈ l, Made c) ∧ (∀ c r, l = c :: r → c ≠ 8205)
theorem mk_next {s : Shared} {g h' : Heap} {L I c0 st kd : Addr} {oI om : Obj} {vs KV : List Value} {base nw : List (Addr × Obj)} {i tk : Nat} {m' : Str → Option Value} {tp tm : Tok} {x : Str} (F : Fr g L h' m') (N : News g L h' nw)
    (hs : ∀ p ∈ (I, oI) :: (st, listOf [Value.ref c0, .int ((1 + i + 1 : Nat) : Int) tp].toArray 0) :: (c0, listOf (vs.take 60).toArray 0) :: (kd, listOf KV.toArray 0) :: (L + 1, om) :: base, p ∈ nw) (hr : ∀ p ∈ (st, listOf [Value.ref c0, .int ((1 + i + 1 : Nat) : Int) tp].toArray 0) :: (c0, listOf (vs.take 60).toArray 0) :: (kd, listOf KV.toArray 0) :: (L + 1, om) :: base, p.1 ≠ I)
    (hk : Knows [(Str.ofString "state", .ref st), (Str.ofString "kinds", .ref kd)] m') (ho : om.data = .cell (some (.str x tm))) (l : List Nat) (c : Nat) (hx : x = ⟨(l ++ [c]).toArray⟩) (hl : l.length = i) (hM : ∀ c ∈ l, Made c) (hc : Made c) (h8 : ∀ c r, l = c :: r → c ≠ 8205) (h0 : i = 0 → c ≠ 8205) : ForNext g L I oI (MkJ s L c0 st kd vs KV base (i + 1)) s.drawn s.os ⟨h', s.gens, s.drawn, tk, s.os⟩ := by
  subst hx
  refine ForNext.intro _ F N hs hr ⟨l ++ [c], tp, tm, om, rfl, rfl, hk, ho, by rw [List.length_append, hl]; rfl, fun d hd => ?_, fun d r e => ?_⟩
  · rcases List.mem_append.mp hd with hd | hd
    · exact hM d hd
    · exact List.mem_singleton.mp hd ▸ hc
  · cases l with
    | nil =>
      obtain ⟨rfl, _⟩ : c = d ∧ [] = r := by simpa using e
      exact h0 hl.symm
    | cons d' r' =>
      obtain ⟨rfl, _⟩ : d' = d ∧ r' ++ [c] = r := by simpa using e
      exact h8 _ _ rfl
theorem next_use {w : World} {A : Around} {E : Value → Shared → Prop} {s : Shared} {h₀ : Heap} {L st sc : Addr} {m mg mb : Str → Option Value} {p' : Program} {loose : List Str} {news : List (Addr × Obj)} {vs : List Value} {n k p lim : Nat} {t u : Tok} {Q : Value → Shared → Prop}
    (hh : A.handled = none) (F : Fr h₀ L s.heap m) (X : (hd.heap_39 w.params).In h₀) (N : News h₀ L s.heap news) (T : TopRead p' loose mg mb h₀) (hD : A.depth + 6 < recursionLimit) (hU : A.units + 40 < cLine)
    (m1 : (st, listOf [Value.ref sc, .int (p : Nat) t].toArray n) ∈ news) (m2 : (sc, listOf vs.toArray k) ∈ news) (hne : sc ≠ st) (hvs : ∀ v ∈ vs, ∃ i t, v = .int i t) (hlen : vs.length ≤ 60) (hp : p < 1000) (hl1 : 1 ≤ lim) (hl2 : lim < 100)
    (rest : List (Addr × Obj)) (hrest : ∀ q ∈ rest, q ∈ news ∧ q.1 ≠ st ∧ q.1 ≠ sc)
    (h : ∀ (v : Nat) t' u' h' tk, v < lim → Fr h₀ L h' m → News h₀ L h' ((st, listOf [Value.ref sc, .int ((p + 1 : Nat) : Int) t'].toArray n) :: (sc, listOf vs.toArray k) :: rest) → Q (.int (v : Nat) u') { s with heap := h', toks := tk }) :
    wpAny (model PySem.Challenge.rw_fe0297_01.row.prog w) A (call (.ref 252) [.ref st, .int (lim : Nat) u]) Q E s := by
  refine Raw.use (next_gives w hne hvs hlen hp hl1 hl2) hh F X N T (List.forall_mem_cons.mpr ⟨m1, List.forall_mem_cons.mpr ⟨m2, fun _ h => nomatch h⟩⟩) hD hU ?_
  rintro r nw h' tk' gs' F' N' k ⟨rfl, t', rfl, v, u', rfl, hv⟩
  refine h v t' u' h' tk' hv F' (fun q hq => ?_)
  rcases List.mem_cons.mp hq with rfl | hq
  · exact N' _ (.head _)
  · rcases List.mem_cons.mp hq with rfl | hq
    · exact N' _ (.tail _ (.head _))
    · obtain ⟨q1, q2, q3⟩ := hrest q hq
      refine ⟨(k q q1 (fun hm => ?_)).1, (N q q1).2⟩
      rcases List.mem_cons.mp hm with e | hm
      · exact q2 e
      · exact q3 (List.mem_singleton.mp hm)
theorem str1_of {c d : Nat} {lit : String} (e : Str.ofString lit = ⟨#[d]⟩) (h : ((⟨#[c]⟩ : Str) == Str.ofString lit) = false) : c ≠ d := fun q => by
  rw [e, q] at h
  exact absurd h (by simp)
theorem pieces_use {w : World} {A : Around} {E : Value → Shared → Prop} {s : Shared} {h₀ : Heap} {L : Addr} {m mg mb : Str → Option Value} {p' : Program} {loose : List Str} {news : List (Addr × Obj)} {l : List Nat} {t : Tok} {Q : Value → Shared → Prop}
    (hl : ∀ c ∈ l, Made c) (hn : l.length < 100) (hne : l ≠ []) (hl8 : ∀ c r, l = c :: r → c ≠ 8205) (hh : A.handled = none) (F : Fr h₀ L s.heap m) (X : (hd.heap_39 w.params).In h₀) (N : News h₀ L s.heap news) (T : TopRead p' loose mg mb h₀) (hD : A.depth + 20 < recursionLimit) (hU : A.units + 80 < cLine)
    (h : ∀ pl pv k tl h' tk, Fr h₀ L h' m → News h₀ L h' ((pl, listOf (List.toArray pv) k) :: (news ++ tl)) → DatAll tl pv ((pcs l).map sdat) → (∀ q ∈ news, @Ne Nat pl q.1) → (∀ q ∈ news, ∀ x ∈ tl, @Ne Nat x.1 q.1) → Q (.ref pl) { s with heap := h', toks := tk }) :
    wpAny (model PySem.Challenge.rw_fe0297_01.row.prog w) A (call (.ref 257) [.str ⟨l.toArray⟩ t]) Q E s := by
  refine Raw.use (pieces_gives w hl hn hne hl8) hh F X N T (fun _ h => nomatch h) hD hU ?_
  rintro r nw h' tk' gs' F' N' k ⟨e, tl, rfl, pl, pv, kp, rfl, hm, hd⟩
  subst e
  rw [List.append_nil] at N' k
  refine h pl pv kp tl h' tk' F' (List.forall_mem_cons.mpr ⟨N' _ hm, fun q hq => ?_⟩) hd (fun q hq => (k q hq (fun h => nomatch h)).2 _ hm) (fun q hq x hx => (k q hq (fun h => nomatch h)).2 x hx)
  rcases List.mem_append.mp hq with hq | hq
  · exact ⟨(k q hq (fun h => nomatch h)).1, (N q hq).2⟩
  · exact N' q hq
/-- [piece[2] for piece in pieces] -/
theorem comp_sizes {prog : Program} {w : World} {A : Around} {E : Value → Shared → Prop} {s : Shared} {h₀ : Heap} {L pl : Addr} {m : Str → Option Value} {env : Env} {news tl : List (Addr × Obj)} {l : List Nat} {pv : List Value} {k : Nat} {Q : Value → Shared → Prop} {cl : List (Str × Addr)} {p1 p2 p3 p4 p5 p6 : Pos} {i0 : Nat}
    (F : Fr h₀ L s.heap m) (N : News h₀ L s.heap news) (hm : (pl, listOf pv.toArray k) ∈ news) (hdat : DatAll tl pv ((pcs l).map sdat)) (hn : l.length < 1000) (htl : ∀ p ∈ tl, p ∈ news) (hh : A.handled = none)
    (hclos : closureFor { kind := ScopeKind.function, names := [(Str.ofString ".0", NameKind.local), (Str.ofString "piece", NameKind.local)], isGenerator := false, isCoroutine := false } env = pure cl)
    (hev : ∀ Q' : Value → Shared → Prop, Q' (.ref pl) s → wpAny (model prog w) A (eval (.Name (Str.ofString "pieces") p5) env) Q' E s)
    (h : ∀ D ys h' tk, IntsAre ys ((pcs l).map fun q => ((size q : Nat) : Int)) → Fr h₀ L h' m → News h₀ L h' ((D, LCg.lst ys) :: news) → LCg.Off1 D news → Q (.ref D) { s with heap := h', toks := tk }) :
    wpAny (model prog w) A (eval (.ListComp (.Subscript (.Name (Str.ofString "piece") p1) (.Constant (.int 2) i0 p2) p3) [⟨.Name (Str.ofString "piece") p4, .Name (Str.ofString "pieces") p5, [], 0⟩] { kind := ScopeKind.function, names := [(Str.ofString ".0", NameKind.local), (Str.ofString "piece", NameKind.local)], isGenerator := false, isCoroutine := false } p6) env) Q E s := by
  have hpl := pcs_length l
  have hvl : pv.length = (pcs l).length := by rw [hdat.length, List.length_map]
  refine comp_list1 F hclos (by decide) rfl (by decide) rfl (hev _ ?_)
  refine listsrc1_pure (vs := pv) (k := k) hh F N hm (by omega) (fun j ys => IntsAre ys (((pcs l).take j).map fun q => ((size q : Nat) : Int))) .nil ?_ ?_
  · rintro j v ys nw gs I2 oI2 C oC D m₂ h2 tk2 hj hvj ⟨rfl, rfl, hY⟩ hC hx F9 N9 off ne hC0 hCL
    obtain ⟨⟨st, en, sz⟩, a, kn, t1, t2, t3, e1, rfl, e3⟩ := dat_at hdat hvj
    have hIt : IsTup h2 a [Value.int (st : Nat) t1, Value.int (en : Nat) t2, Value.int (sz : Nat) t3].toArray := ⟨_, (N9 _ (.tail _ (.tail _ (.tail _ (htl _ e3))))).1, rfl, _, rfl⟩
    refine Subscript_ (LCgL.ld_own N9 (.tail _ (.head _)) hC hx (wpAny_Constant_int ?_))
    refine item_tupleT (j := 2) (x := Value.int (sz : Nat) t3) hIt (by decide) (by decide) rfl rfl ?_
    refine CompNext.intro _ F9 N9 (fun _ h => h) off ⟨rfl, rfl, ?_⟩
    rw [List.take_add_one, e1, List.map_append]
    exact hY.append (.cons _ _ .nil)
  · intro D ys h' tk hY F9 N9 off
    rw [hvl, List.take_length] at hY
    exact h D ys h' tk hY F9 N9 off
theorem gr_use1 {w : World} {A : Around} {E : Value → Shared → Prop} {s : Shared} {h₀ : Heap} {L : Addr} {m mg mb : Str → Option Value} {p : Program} {loose : List Str} {news : List (Addr × Obj)} {t : Tok} {l : List Nat} {Q : Value → Shared → Prop}
    (hl : ∀ c ∈ l, Sign c) (hn : l.length < 1000) (hh : A.handled = none) (F : Fr h₀ L s.heap m) (X : (hd.heap_39 w.params).In h₀) (N : News h₀ L s.heap news) (T : TopRead p loose mg mb h₀) (hD : A.depth + 30 < recursionLimit) (hU : A.units + 100 < cLine)
    (h : ∀ T tl n2 h' tk, Fr h₀ L h' m → News h₀ L h' n2 → DatIn tl (.ref T) (Dat.tuple [.list ((pcs l).map sdat), .int (total l : Nat)]) → (∀ p ∈ tl, p ∈ n2) → (∀ p ∈ news, p ∈ n2) → Q (.ref T) { s with heap := h', toks := tk }) :
    wpAny (model PySem.Challenge.rw_fe0297_01.row.prog w) A (call (.ref 216) [.str ⟨l.toArray⟩ t]) Q E s := by
  refine Raw.use (gr_gives1 w hl hn) hh F X N T (fun _ h => nomatch h) hD hU ?_
  rintro r nw h' tk' gs' F' N' k ⟨e, tl, e2, T, sl, vs, k1, kn, u, e3, m1, m2, hd⟩
  subst e e2 e3
  rw [List.append_nil] at N' k
  refine h T tl (tl ++ news) h' tk' F' (fun q hq => ?_) (DatIn.tuple m1 (.cons (.list m2 hd) (.cons (.int _ _) .nil))) (fun p hp => List.mem_append_left _ hp) (fun p hp => List.mem_append_right _ hp)
  rcases List.mem_append.mp hq with hq | hq
  · exact N' q hq
  · exact ⟨(k q hq (fun h => nomatch h)).1, (N q hq).2⟩
theorem dat_disp {D pl : Addr} {tl n2 : List (Addr × Obj)} {pv : List Value} {kp kn : Nat} {ds : List Dat} {i : Int} {t : Tok} (m1 : (pl, listOf pv.toArray kp) ∈ n2) (hd : DatAll tl pv ds) (hs : ∀ p ∈ tl, p ∈ n2) : DatIn ((D, ({ cls := .type "tuple", data := .seq [Value.ref pl, Value.int i t].toArray kn } : Obj)) :: n2) (.ref D) (Dat.tuple [.list ds, .int i]) :=
  DatIn.tuple (.head _) (.cons (.list (.tail _ m1) (hd.mono fun p hp => .tail _ (hs p hp))) (.cons (.int _ _) .nil))
theorem ok_pcs (l : List Nat) (n : Int) : kqdOk 8 (Dat.tuple [.list ((pcs l).map sdat), .int n]) = true := by
  have h : ((pcs l).map sdat).all (kqdOk 6) = true := by
    rw [List.all_eq_true]
    intro d hd
    obtain ⟨p, _, rfl⟩ := List.mem_map.mp hd
    rfl
  simp [kqdOk, h]
theorem sum_cast3 (l : List Nat) : ((pcs l).map fun q => ((size q : Nat) : Int)).sum = ((total l : Nat) : Int) := by
  rw [← pcs_sum, ← sum_cast1, List.map_map]
  rfl
theorem ok_ints (ns : List Int) : kqdOk 8 (Dat.list (ns.map Dat.int)) = true := by
  have h : (ns.map Dat.int).all (kqdOk 7) = true := by
    rw [List.all_eq_true]
    intro d hd
    obtain ⟨p, _, rfl⟩ := List.mem_map.mp hd
    rfl
  simp [kqdOk, h]
theorem ints_dat {ys : List Value} {ns : List Int} (h : IntsAre ys ns) : DatAll [] ys (ns.map Dat.int) := by
  induction h with
  | nil => exact .nil
  | cons n t _ ih => exact .cons (.int _ _) ih
theorem comp_global {w : World} {A : Around} {E : Value → Shared → Prop} {s : Shared} {K : Frag} {h₀ : Heap} {L C : Addr} {m mg mb : Str → Option Value} {scope : Scope} {cl : List (Str × Addr)} {env : Env} {p : Program} {loose : List Str} {x : Str} {pos : Pos} {v : Value} {Q : Value → Shared → Prop}
    (F : Fr h₀ L s.heap m) (X : K.In h₀) (T : TopRead p loose mg mb h₀) (e : nsIn K mainGlobals x = some (some v)) (h : Q v s) (hg : env.globals = mainGlobals := by rfl)
    (hk : (compEnvC scope cl C env).scope.kind = .function := by rfl) (hx : (compEnvC scope cl C env).kindOf x = some .globalImplicit := by rfl) (hd : (x == ("__debug__" : Str)) = false := by decide) :
    wpAny (model PySem.Challenge.rw_fe0297_01.row.prog w) A (eval (.Name x pos) (compEnvC scope cl C env)) Q E s :=
  Name_function_global hk hx (loadGlobal_global (env := compEnvC scope cl C env) (show s.heap.Ns env.globals mg from hg ▸ (T.keeps F.keep).g) (mg_of X T.g e) h) hd
local macro_rules | `(tactic| walk_at "eval Name") => `(tactic| (k_here; (with_reducible show wpAny _ _ (eval (Expr.Name _ _) (compEnvC _ _ _ _)) _ _ _); k_dflt (refine comp_global (by k_asm) (by k_asm) (by k_asm) (by k_is) ?_)))
theorem sign_part {l : List Nat} (h : ∀ c ∈ l, Sign c) (a b : Nat) : ∀ c ∈ (l.drop a).take b, Sign c := fun c hc => h c (List.mem_of_mem_drop (List.mem_of_mem_take hc))
theorem ok_txt {a : List Nat} (h : ∀ c ∈ a, Sign c) : PyData.strOk ⟨a.toArray⟩ = true := by
  show (a.toArray).all (· < 0x110000) = true
  rw [List.all_toArray, List.all_eq_true]
  intro c hc
  have := h c hc
  unfold Sign at this
  exact decide_eq_true (by omega)
theorem split_sign {l : List Nat} (hl : ∀ c ∈ l, Sign c) {cell : Nat} {a b : List Nat} (h : IsSplit l (pcs l) cell a b) : (∀ c ∈ a, Sign c) ∧ (∀ c ∈ b, Sign c) ∧ a.length ≤ l.length + 1 ∧ b.length ≤ l.length + 1 := by
  have s32 : Sign 32 := by unfold Sign; omega
  rcases h with ⟨k, hk, hp, ⟨e, e1, e2⟩ | ⟨p, hq, e1, e2⟩⟩ | ⟨k, p, hq, h1, h2, e1, e2⟩
  · subst e1 e2
    exact ⟨hl, (fun _ h => nomatch h), by omega, by simp⟩
  · subst e1 e2
    exact ⟨fun c hc => hl c (List.mem_of_mem_take hc), fun c hc => hl c (List.mem_of_mem_drop hc), by simp <;> omega, by simp <;> omega⟩
  · subst e1 e2
    refine ⟨fun c hc => ?_, fun c hc => ?_, by simp <;> omega, by simp <;> omega⟩
    · rcases List.mem_append.mp hc with hc | hc
      · exact hl c (List.mem_of_mem_take hc)
      · exact List.mem_singleton.mp hc ▸ s32
    · rcases List.mem_cons.mp hc with rfl | hc
      · exact s32
      · exact hl c (List.mem_of_mem_drop hc)
theorem chop_mem {l : List Nat} {w : Nat} : ∀ (ps : List Span) (cur : List Nat) (used : Nat), (∀ c ∈ cur, c ∈ l) → ∀ x ∈ chop l w ps cur used, ∀ c ∈ x, c ∈ l
  | [], cur, used, h, x, hx, c, hc => by
    obtain rfl : x = cur := List.mem_singleton.mp hx
    exact h c hc
  | p :: ps, cur, used, h, x, hx, c, hc => by
    have hp : ∀ c ∈ part l p, c ∈ l := fun c hc => List.mem_of_mem_drop (List.mem_of_mem_take hc)
    unfold chop at hx
    split at hx
    · rcases List.mem_cons.mp hx with rfl | hx
      · exact h c hc
      · exact chop_mem ps _ _ hp x hx c hc
    · refine chop_mem ps _ _ (fun c hc => ?_) x hx c hc
      rcases List.mem_append.mp hc with hc | hc
      · exact h c hc
      · exact hp c hc
theorem ok_lines {ls : List (List Nat)} (h : ∀ x ∈ ls, ∀ c ∈ x, Sign c) : kqdOk 8 (Dat.list (ls.map ldat)) = true := by
  have h2 : (ls.map ldat).all (kqdOk 7) = true := by
    rw [List.all_eq_true]
    intro d hd
    obtain ⟨p, hp, rfl⟩ := List.mem_map.mp hd
    exact ok_txt (h p hp)
  simp [kqdOk, h2]
theorem ok_two {a b : List Nat} (ha : ∀ c ∈ a, Sign c) (hb : ∀ c ∈ b, Sign c) : kqdOk 8 (Dat.tuple [.str ⟨a.toArray⟩, .str ⟨b.toArray⟩]) = true := by
  have h1 := ok_txt ha
  have h2 := ok_txt hb
  simp [kqdOk, h1, h2]
theorem dat_two {D : Addr} {x y : Str} {tx ty : Tok} {kn : Nat} {n2 : List (Addr × Obj)} : DatIn ((D, tup2 (.str x tx) (.str y ty) kn) :: n2) (.ref D) (Dat.tuple [.str x, .str y]) := DatIn.tuple (.head _) (.cons (.str _ _) (.cons (.str _ _) .nil))
/-- the loop of law over the cells -/
def CeJ (s : Shared) (L c0 st pl : Addr) (l : List Nat) (base : List (Addr × Obj)) (u9 : Tok) (i : Nat) (m : Str → Option Value) (rest : List (Addr × Obj)) (gs : Array GenState) : Prop :=
  ∃ ps2 qs2 : Array Value, rest = (203, tabObj ps2) :: (219, tabObj qs2) :: base ∧ TriplesOk ps2.toList ∧ TriplesOk qs2.toList ∧ (AllBare s.gens → AllBare gs) ∧ Knows [(Str.ofString "state", .ref st), (Str.ofString "pieces", .ref pl), (Str.ofString "total", .int (total l : Nat) u9)] m
/-- what law hands back -/
abbrev LawOut : Out4 := fun gs nw gs' r => (∃ ps' qs', nw = [(203, tabObj ps'), (219, tabObj qs')] ∧ TriplesOk ps'.toList ∧ TriplesOk qs'.toList) ∧ (AllBare gs → AllBare gs') ∧ r = .bool true
theorem law_gives (w : World) {vs : List Value} (hvs : ∀ v ∈ vs, ∃ i t, v = .int i t) (hvl : vs.length < 1000) {sc : Addr} {ps qs : Array Value} (hps : TriplesOk ps.toList) (hqs : TriplesOk qs.toList) :
    RawZ PySem.Challenge.rw_fe0297_01.row.prog w (hd.heap_39 w.params) (fun g => g.IsList sc vs.toArray) 276 [(203, tabObj ps), (219, tabObj qs)] [.ref sc] 60 250 LawOut := by
  refine rawZ_ofC [(Str.ofString "script", .ref sc)] (by k_is) (by k_is) (fun s X => BindsTo.of_eq rfl) (fun n => List.forall_mem_cons.mpr ⟨.inl rfl, fun _ h => nomatch h⟩) (by decide) rfl rfl rfl ?_
  intro dp un gd outer g L mg mb p loose s cells hZ F X N HC hpre T BMh hd hu
  obtain ⟨oc, rfl, hoc⟩ := HC.one
  have hz1 : vs.length < 2 ^ 20 := by omega
  replace hZ : g.IsList sc vs.toArray := hZ
  replace hoc : oc.data = .cell none := hoc
  replace F : Fr g L s.heap (fun y => if y = Str.ofString "script" then some (Value.ref sc) else none) := F
  replace N : News g L s.heap [(L + 1, oc), (203, tabObj ps), (219, tabObj qs)] := N
  have hL3 : @LT.lt Nat _ 203 L := hpre _ (.head _)
  have hL9 : @LT.lt Nat _ 219 L := hpre _ (.tail _ (.head _))
  clear HC hpre
  show wpAny _ _ _ _ _ _
  k_fold
  k_steps
  rename_i c0 h5 l1a st h4 l1b h3 tka kd h2 l1c h1 h0 om F1 N1 hom
  have q1 : @LT.lt Nat _ (L + 1) c0 := l1a.1
  have q2 : @LT.lt Nat _ c0 st := l1b.1
  have q3 : @LT.lt Nat _ st kd := l1c.1
  clear l1a l1b l1c
  refine Halt.out ?_
  refine For_led ?_
  k_steps
  refine Halt.out ?_
  have hv60 : ∀ v ∈ vs.take 60, ∃ i t, v = Value.int i t := fun v hv => hvs v (List.mem_of_mem_take hv)
  have hl60 : (vs.take 60).length ≤ 60 := by rw [List.length_take]; omega
  generalize hKV : ([Value.str (Str.ofString "a") _, Value.str (Str.ofString "あ") _, Value.str (Str.ofString "́") _, Value.str (Str.ofString "#") _, Value.str (Str.ofString "️") _, Value.str (Str.ofString "‍") _, Value.str (Str.ofString "❤") _, Value.str (Str.ofString "😀") _] : List Value) = KV at N1
  have HK : ∀ v, v < 8 → ∃ c t, KV[v]? = some (Value.str ⟨#[c]⟩ t) ∧ Made c := by
    subst hKV
    intro v hv
    rcases v with _|_|_|_|_|_|_|_|v
    · exact ⟨97, _, by with_unfolding_all rfl, by unfold Made; decide⟩
    · exact ⟨12354, _, by with_unfolding_all rfl, by unfold Made; decide⟩
    · exact ⟨769, _, by with_unfolding_all rfl, by unfold Made; decide⟩
    · exact ⟨35, _, by with_unfolding_all rfl, by unfold Made; decide⟩
    · exact ⟨65039, _, by with_unfolding_all rfl, by unfold Made; decide⟩
    · exact ⟨8205, _, by with_unfolding_all rfl, by unfold Made; decide⟩
    · exact ⟨10084, _, by with_unfolding_all rfl, by unfold Made; decide⟩
    · exact ⟨128512, _, by with_unfolding_all rfl, by unfold Made; decide⟩
    · omega
  clear hKV
  refine' next_use (w := w) (lim := 7) (p := 0) (st := st) (sc := c0) (vs := vs.take 60) (n := 0) (k := 0) rfl F1 X N1 T ?zD ?zU (by k_mem) (by k_mem) (by k_ne) hv60 hl60 (by omega) (by omega) (by omega) [(kd, listOf KV.toArray 0), (L + 1, om), (203, tabObj ps), (219, tabObj qs)] ?zr ?_
  case zD => walk_at "my room"
  case zU => walk_at "my units"
  case zr => exact List.forall_mem_cons.mpr ⟨⟨by k_mem, by k_ne, by k_ne⟩, List.forall_mem_cons.mpr ⟨⟨by k_mem, by k_ne, by k_ne⟩, List.forall_mem_cons.mpr ⟨⟨by k_mem, by k_ne, by k_ne⟩, List.forall_mem_cons.mpr ⟨⟨by k_mem, by k_ne, by k_ne⟩, fun _ h => nomatch h⟩⟩⟩⟩
  intro v t' u' h' tk' hv F2 N2
  clear F1 N1
  k_steps
  rename_i h9 tk9 t1 u1 v1 hR F3 N3 hup
  have hemp : Str.ofString "" = ⟨([] : List Nat).toArray⟩ := by decide
  rw [hemp] at hom
  refine iter_range (n := v + 1) (MkJ s L c0 st kd vs KV [(203, tabObj ps), (219, tabObj qs)]) rfl hR (small_one (by omega) (by omega) (by omega) (by omega)) (by rw [rangeSize_nat]; omega) F3 N3 ⟨[], _, _, om, rfl, rfl, by walk_at "knows", hom, rfl, (fun _ h => nomatch h), (fun _ _ h => nomatch h)⟩ ?_ ?_
  · clear F3 N3 hR hup hom
    rintro i ti I m rest gs oI h tk hi ⟨l, tp, tm, om2, rfl, rfl, hk, hom2, hli, hM, h8⟩ hr F4 N4
    replace F4 := fr_kn _ F4 hk
    clear hk
    have hI1 : @Ne Nat I st := Ne.symm (hr _ (.head _))
    have hI2 : @Ne Nat I c0 := Ne.symm (hr _ (.tail _ (.head _)))
    have hI3 : @Ne Nat I kd := Ne.symm (hr _ (.tail _ (.tail _ (.head _))))
    have hI4 : @Ne Nat I (L + 1) := Ne.symm (hr _ (.tail _ (.tail _ (.tail _ (.head _)))))
    have hI5 : @Ne Nat I 203 := Ne.symm (hr _ (.tail _ (.tail _ (.tail _ (.tail _ (.head _))))))
    have hI6 : @Ne Nat I 219 := Ne.symm (hr _ (.tail _ (.tail _ (.tail _ (.tail _ (.tail _ (.head _)))))))
    have hr9 : ∀ q om3, ∀ p ∈ (st, listOf [Value.ref c0, q].toArray 0) :: (c0, listOf (vs.take 60).toArray 0) :: (kd, listOf KV.toArray 0) :: (L + 1, om3) :: [(203, tabObj ps), (219, tabObj qs)], p.1 ≠ I := fun _ _ => List.forall_mem_cons.mpr ⟨Ne.symm hI1, List.forall_mem_cons.mpr ⟨Ne.symm hI2, List.forall_mem_cons.mpr ⟨Ne.symm hI3, List.forall_mem_cons.mpr ⟨Ne.symm hI4, List.forall_mem_cons.mpr ⟨Ne.symm hI5, List.forall_mem_cons.mpr ⟨Ne.symm hI6, fun _ h => nomatch h⟩⟩⟩⟩⟩⟩
    rw [Int.zero_add]
    by_cases hi0 : i = 0
    · have h0I : (((i : Nat) : Int) == 0) = true := beq_iff_eq.mpr (by omega)
      show wpAny _ _ _ _ _ _
      k_fold
      k_steps
      refine Halt.out ?_
      rename Fr _ _ _ _ => F5
      rename News _ _ _ _ => N5
      refine' next_use (w := w) (lim := 8) (p := 1 + i) (st := st) (sc := c0) (vs := vs.take 60) (n := 0) (k := 0) rfl F5 X N5 T ?zD ?zU (by k_mem) (by k_mem) (by k_ne) hv60 hl60 (by omega) (by omega) (by omega) [(I, oI), (kd, listOf KV.toArray 0), (L + 1, om2), (203, tabObj ps), (219, tabObj qs)] ?zr ?_
      case zD => walk_at "my room"
      case zU => walk_at "my units"
      case zr => exact List.forall_mem_cons.mpr ⟨⟨by k_mem, by k_ne, by k_ne⟩, List.forall_mem_cons.mpr ⟨⟨by k_mem, by k_ne, by k_ne⟩, List.forall_mem_cons.mpr ⟨⟨by k_mem, by k_ne, by k_ne⟩, List.forall_mem_cons.mpr ⟨⟨by k_mem, by k_ne, by k_ne⟩, List.forall_mem_cons.mpr ⟨⟨by k_mem, by k_ne, by k_ne⟩, fun _ h => nomatch h⟩⟩⟩⟩⟩
      intro v2 t2 u2 h2' tk2' hv2 F6 N6
      clear F5 N5
      k_steps
      · exact mk_next (by assumption) (by assumption) (by walk_at "news in") (hr9 _ _) (by walk_at "knows") (by assumption) l 97 rfl hli hM (by unfold Made; decide) h8 (fun _ => by decide)
      · rename (_ == _) = false => hcz
        rename Made _ => hMc
        exact mk_next (by assumption) (by assumption) (by walk_at "news in") (hr9 _ _) (by walk_at "knows") (by assumption) l _ rfl hli hM hMc h8 (fun _ => str1_of (by decide) hcz)
    · have h0I : (((i : Nat) : Int) == 0) = false := beq_eq_false_iff_ne.mpr (by omega)
      show wpAny _ _ _ _ _ _
      k_fold
      k_steps
      refine Halt.out ?_
      rename Fr _ _ _ _ => F5
      rename News _ _ _ _ => N5
      refine' next_use (w := w) (lim := 8) (p := 1 + i) (st := st) (sc := c0) (vs := vs.take 60) (n := 0) (k := 0) rfl F5 X N5 T ?yD ?yU (by k_mem) (by k_mem) (by k_ne) hv60 hl60 (by omega) (by omega) (by omega) [(I, oI), (kd, listOf KV.toArray 0), (L + 1, om2), (203, tabObj ps), (219, tabObj qs)] ?yr ?_
      case yD => walk_at "my room"
      case yU => walk_at "my units"
      case yr => exact List.forall_mem_cons.mpr ⟨⟨by k_mem, by k_ne, by k_ne⟩, List.forall_mem_cons.mpr ⟨⟨by k_mem, by k_ne, by k_ne⟩, List.forall_mem_cons.mpr ⟨⟨by k_mem, by k_ne, by k_ne⟩, List.forall_mem_cons.mpr ⟨⟨by k_mem, by k_ne, by k_ne⟩, List.forall_mem_cons.mpr ⟨⟨by k_mem, by k_ne, by k_ne⟩, fun _ h => nomatch h⟩⟩⟩⟩⟩
      intro v2 t2 u2 h2' tk2' hv2 F6 N6
      clear F5 N5
      k_steps
      rename Made _ => hMc
      exact mk_next (by assumption) (by assumption) (by walk_at "news in") (hr9 _ _) (by walk_at "knows") (by assumption) l _ rfl hli hM hMc h8 (fun h => absurd h hi0)
  · clear F3 N3 hR hup hom
    rintro m rest gs h tk ⟨l, tp, tm, om2, rfl, rfl, hk, hom2, hli, hM, h8⟩ F4 N4
    replace F4 := fr_kn _ F4 hk
    clear hk
    have hll : l.length < 100 := by omega
    have hlne : l ≠ [] := fun e => by rw [e] at hli; simp at hli
    have hS : ∀ c ∈ l, Sign c := fun c hc => by
      have := hM c hc
      unfold Made at this
      unfold Sign
      omega
    show wpAny _ _ _ _ _ _
    k_fold
    k_steps
    refine Halt.out ?_
    rename Fr _ _ _ _ => F5
    rename News _ _ _ _ => N5
    refine' pieces_use hM hll hlne h8 rfl F5 X N5 T ?xD ?xU ?_
    case xD => walk_at "my room"
    case xU => walk_at "my units"
    intro pl pv kp tl h6 tk6 F6 N6 hdat hpn htn
    clear F5 N5
    simp only [List.forall_mem_cons, List.not_mem_nil, false_implies, implies_true, and_true] at hpn
    k_steps
    refine Halt.out ?_
    rename Fr _ _ _ _ => F7
    rename News _ _ _ _ => N7
    simp only [List.cons_append, List.nil_append] at N7
    refine comp_sizes F7 N7 (by k_mem) hdat (by omega) (fun p hp => .tail _ (.tail _ (.tail _ (.tail _ (.tail _ (.tail _ (.tail _ hp))))))) rfl (by with_unfolding_all rfl) (fun Q' hQ => nameX_L F7 rfl hQ) ?_
    intro D1 ys1 h8' tk8 hys1 F8 N8 off8
    clear F7 N7
    k_steps
    refine Halt.out ?_
    refine LSm.sum_ints F8 N8 rfl ⟨_, (N8 _ (.head _)).1, rfl, _, rfl⟩ hys1 ?_
    rw [sum_cast3]
    clear F8 N8
    intro h9' tk9' u9 F9 N9
    k_steps
    refine Halt.out ?_
    rename Fr _ _ _ _ => F10
    rename News _ _ _ _ => N10
    have hN10 := N10
    refine' gr_use1 hS (by omega) rfl F10 X N10 T ?wD ?wU ?_
    case wD => walk_at "my room"
    case wU => walk_at "my units"
    intro T2 tl2 n2 h11 tk11 F11 N11 hd11 hs11 hs12
    clear F10 hN10
    k_steps
    refine Halt.out ?_
    rename Fr _ _ _ _ => F12
    rename News _ _ _ _ => N12
    refine dat_ne N12 hd11 (fun p hp => .tail _ (hs11 p hp)) (dat_disp (hs12 _ (.tail _ (.head _))) hdat fun p hp => hs12 p (.tail _ (.tail _ (.tail _ (.tail _ (.tail _ (.tail _ (.tail _ (.tail _ hp))))))))) (fun _ h => h) (ok_pcs l _) (by walk_at "my units") ?_
    have t3 : ∀ x ∈ tl, @Ne Nat x.1 203 := htn (203, tabObj ps) (by k_mem)
    have t9 : ∀ x ∈ tl, @Ne Nat x.1 219 := htn (219, tabObj qs) (by k_mem)
    have tL : ∀ x ∈ tl, @Ne Nat x.1 (L + 1) := htn (L + 1, om2) (by k_mem)
    have tst : ∀ x ∈ tl, @Ne Nat x.1 st := htn (st, _) (.head _)
    have tc0 : ∀ x ∈ tl, @Ne Nat x.1 c0 := htn (c0, _) (.tail _ (.head _))
    replace N12 : News g L _ ((pl, listOf pv.toArray kp) :: (st, listOf [Value.ref c0, .int ((1 + (v + 1) : Nat) : Int) tp].toArray 0) :: (c0, listOf (vs.take 60).toArray 0) :: (L + 1, om2) :: (203, tabObj ps) :: (219, tabObj qs) :: tl) := cb_drop N12 (List.forall_mem_cons.mpr ⟨.tail _ (hs12 _ (by k_mem)), List.forall_mem_cons.mpr ⟨.tail _ (hs12 _ (by k_mem)), List.forall_mem_cons.mpr ⟨.tail _ (hs12 _ (by k_mem)), List.forall_mem_cons.mpr ⟨.tail _ (hs12 _ (by k_mem)), List.forall_mem_cons.mpr ⟨.tail _ (hs12 _ (by k_mem)), List.forall_mem_cons.mpr ⟨.tail _ (hs12 _ (by k_mem)), fun p hp => .tail _ (hs12 p (.tail _ (.tail _ (.tail _ (.tail _ (.tail _ (.tail _ (.tail _ (.tail _ hp)))))))))⟩⟩⟩⟩⟩⟩)
    clear hd11 hs11 hs12 htn
    have hpn' := hpn
    obtain ⟨p1, p2, p3, p4, p5, p6⟩ := hpn
    k_steps
    refine Halt.out ?_
    refine' cell_use (celllen_gives w hS (by omega) hps) BMh rfl F12 X N12 T (by k_mem) ?vD ?vU ((pl, listOf pv.toArray kp) :: (st, listOf [Value.ref c0, .int ((1 + (v + 1) : Nat) : Int) tp].toArray 0) :: (c0, listOf (vs.take 60).toArray 0) :: (L + 1, om2) :: (219, tabObj qs) :: tl) ?vr ?_
    case vD => walk_at "my room"
    case vU => walk_at "my units"
    case vr => exact List.forall_mem_cons.mpr ⟨⟨by k_mem, by k_ne⟩, List.forall_mem_cons.mpr ⟨⟨by k_mem, by k_ne⟩, List.forall_mem_cons.mpr ⟨⟨by k_mem, by k_ne⟩, List.forall_mem_cons.mpr ⟨⟨by k_mem, by k_ne⟩, List.forall_mem_cons.mpr ⟨⟨by k_mem, by k_ne⟩, fun x hx => ⟨.tail _ (.tail _ (.tail _ (.tail _ (.tail _ (.tail _ hx))))), t3 x hx⟩⟩⟩⟩⟩⟩
    intro ps1 u13 h13 tk13 gs13 F13 N13 ht13 hg13
    clear F12 N12
    rw [tot_total h8]
    have hcI : (((total l : Nat) : Int) != ((total l : Nat) : Int)) = false := bne_self_eq_false _
    k_steps
    refine Halt.out ?_
    rename Fr _ _ _ _ => F14
    rename News _ _ _ _ => N14
    have hpvl : pv.length = (pcs l).length := by rw [hdat.length, List.length_map]
    have hpcl := pcs_length l
    refine comp_list3 F14 (by with_unfolding_all rfl) (by decide) rfl (by decide) rfl rfl rfl (by decide) (by decide) (by decide) ?_
    k_steps
    refine ⟨pl, pv, kp, _, (fun i _ a b c => ∃ p t1 t2 t3, (pcs l)[i]? = some p ∧ a = Value.int (p.1 : Nat) t1 ∧ b = Value.int (p.2.1 : Nat) t2 ∧ c = Value.int (p.2.2 : Nat) t3),
      (fun i ys news gs => ∃ ps2 : Array Value, news = (203, tabObj ps2) :: (pl, listOf pv.toArray kp) :: (st, listOf [Value.ref c0, .int ((1 + (v + 1) : Nat) : Int) tp].toArray 0) :: (c0, listOf (vs.take 60).toArray 0) :: (L + 1, om2) :: (219, tabObj qs) :: tl ∧ TriplesOk ps2.toList ∧ (AllBare gs13 → AllBare gs) ∧ IntsAre ys (((pcs l).take i).map fun q => ((size q : Nat) : Int))), rfl, rfl, F14, N14, by omega, ?_, ⟨ps1, rfl, ht13, id, .nil⟩, ?_, ?_, ?_⟩
    · rintro i ys news gs ⟨ps2, rfl, _⟩
      exact .tail _ (.head _)
    · rintro i v2 ys news gs hv2 ⟨ps2, rfl, _⟩
      obtain ⟨q, a, kn, t1, t2, t3, e1, rfl, e3⟩ := dat_at hdat hv2
      exact ⟨a, _, _, _, _, kn, rfl, ⟨q, t1, t2, t3, e1, rfl, rfl, rfl⟩, .tail _ (.tail _ (.tail _ (.tail _ (.tail _ (.tail _ e3))))), rfl, rfl⟩
    · clear F14 N14
      rintro i v2 ys news gs I oI C oC D m₂ h15 tk15 hi hv2 ⟨ps2, rfl, ht2, hg2, hY⟩ hC ⟨t, a, b, c, rfl, ⟨⟨st', en, sz⟩, t1, t2, t3', e1, rfl, rfl, rfl⟩, hx, hy, hz⟩ F15 N15 off ne hC0 hCL
      have hb := pcs_bound (List.mem_of_getElem? e1)
      replace hb : st' ≤ en ∧ en ≤ l.length := hb
      have hij : st' ≤ en := hb.1
      have henl : en ≤ l.length := hb.2
      have hsz := pcs_part h8 e1
      have off' := off
      simp only [LCg.Off3] at off'
      show wpAny _ _ _ _ _ _
      k_fold
      k_steps
      refine Halt.out ?_
      rename Fr _ _ _ _ => F16
      rename News _ _ _ _ => N16
      have hpl2 : ((l.drop st').take (en - st')).length < 500 := by rw [List.length_take, List.length_drop]; omega
      refine' cell_use (celllen_gives w (sign_part hS _ _) hpl2 ht2) BMh rfl F16 X N16 T (by k_mem) ?uD ?uU ((I, oI) :: (C, oC) :: (D, LCg.lst ys) :: (pl, listOf pv.toArray kp) :: (st, listOf [Value.ref c0, .int ((1 + (v + 1) : Nat) : Int) tp].toArray 0) :: (c0, listOf (vs.take 60).toArray 0) :: (L + 1, om2) :: (219, tabObj qs) :: tl) ?ur ?_
      case uD => walk_at "my room"
      case uU => walk_at "my units"
      case ur => exact List.forall_mem_cons.mpr ⟨⟨by k_mem, by k_ne⟩, List.forall_mem_cons.mpr ⟨⟨by k_mem, by k_ne⟩, List.forall_mem_cons.mpr ⟨⟨by k_mem, by k_ne⟩, List.forall_mem_cons.mpr ⟨⟨by k_mem, by k_ne⟩, List.forall_mem_cons.mpr ⟨⟨by k_mem, by k_ne⟩, List.forall_mem_cons.mpr ⟨⟨by k_mem, by k_ne⟩, List.forall_mem_cons.mpr ⟨⟨by k_mem, by k_ne⟩, List.forall_mem_cons.mpr ⟨⟨by k_mem, by k_ne⟩, fun x hx => ⟨.tail _ (.tail _ (.tail _ (.tail _ (.tail _ (.tail _ (.tail _ (.tail _ (.tail _ hx)))))))), t3 x hx⟩⟩⟩⟩⟩⟩⟩⟩⟩
      intro ps3 u17 h17 tk17 gs17 F17 N17 ht17 hg17
      clear F16 N16
      rw [show tot ((l.drop st').take (en - st')) false = sz from hsz]
      refine CompNext.intro ((203, tabObj ps3) :: (pl, listOf pv.toArray kp) :: (st, listOf [Value.ref c0, .int ((1 + (v + 1) : Nat) : Int) tp].toArray 0) :: (c0, listOf (vs.take 60).toArray 0) :: (L + 1, om2) :: (219, tabObj qs) :: tl) F17 N17 (by walk_at "news in") ⟨off.1, off.2⟩ ⟨ps3, rfl, ht17, fun G => hg17 (hg2 G), ?_⟩
      rw [List.take_add_one, e1, List.map_append]
      exact hY.append (.cons _ _ .nil)
    · rintro D2 ys2 news gs2 h18 tk18 ⟨ps2, rfl, ht2, hg2, hY2⟩ F18 N18 off18
      rw [hpvl, List.take_length] at hY2
      clear F14 N14
      k_steps
      refine Halt.out ?_
      refine comp_sizes F18 N18 (by k_mem) hdat (by omega) (fun p hp => .tail _ (.tail _ (.tail _ (.tail _ (.tail _ (.tail _ (.tail _ hp))))))) rfl (by with_unfolding_all rfl) (fun Q' hQ => nameX_L F18 rfl hQ) ?_
      intro D3 ys3 h19 tk19 hys3 F19 N19 off19
      clear F18 N18
      k_steps
      refine Halt.out ?_
      refine dat_ne N19 (DatIn.list (.tail _ (.head _)) ((ints_dat hY2).mono sub_nil)) (fun _ h => h) (DatIn.list (.head _) ((ints_dat hys3).mono sub_nil)) (fun _ h => h) (ok_ints _) (by walk_at "my units") ?_
      replace N19 : News g L h19 ((203, tabObj ps2) :: (pl, listOf pv.toArray kp) :: (st, listOf [Value.ref c0, .int ((1 + (v + 1) : Nat) : Int) tp].toArray 0) :: (c0, listOf (vs.take 60).toArray 0) :: (L + 1, om2) :: (219, tabObj qs) :: tl) := cb_drop N19 (by walk_at "news in")
      k_steps
      refine Halt.out ?_
      refine For_led ?_
      k_steps
      rename Fr _ _ _ _ => F20
      rename News _ _ _ _ => N20
      have hTl := total_le l
      have hbase : ∀ x ∈ (pl, listOf pv.toArray kp) :: (st, listOf [Value.ref c0, .int ((1 + (v + 1) : Nat) : Int) tp].toArray 0) :: (c0, listOf (vs.take 60).toArray 0) :: (L + 1, om2) :: tl, @Ne Nat x.1 203 ∧ @Ne Nat x.1 219 := List.forall_mem_cons.mpr ⟨⟨by k_ne, by k_ne⟩, List.forall_mem_cons.mpr ⟨⟨by k_ne, by k_ne⟩, List.forall_mem_cons.mpr ⟨⟨by k_ne, by k_ne⟩, List.forall_mem_cons.mpr ⟨⟨by k_ne, by k_ne⟩, fun x hx => ⟨t3 x hx, t9 x hx⟩⟩⟩⟩⟩
      refine iter_range (n := total l) (CeJ s L c0 st pl l ((pl, listOf pv.toArray kp) :: (st, listOf [Value.ref c0, .int ((1 + (v + 1) : Nat) : Int) tp].toArray 0) :: (c0, listOf (vs.take 60).toArray 0) :: (L + 1, om2) :: tl) u9) rfl (by assumption) (small_one (by omega) (by omega) (by omega) (by omega)) (by rw [rangeSize_nat]; omega) F20 (cb_drop N20 (by walk_at "news in")) ⟨ps2, qs, rfl, ht2, hqs, fun G => hg2 (hg13 G), by walk_at "knows"⟩ ?_ ?_
      · clear F20 N20
        rintro i ti I m rest gs oI h tk hi ⟨ps3, qs3, rfl, ht3, hq3, hg3, hk⟩ hr F21 N21
        replace F21 := fr_kn _ F21 hk
        clear hk
        have hc1 : 1 ≤ 1 + i := by omega
        have hc2 : 1 + i ≤ total l := by omega
        have ecell : (1 + (i : Int)) = ((1 + i : Nat) : Int) := by omega
        rw [ecell]
        have hrI : ∀ x ∈ (pl, listOf pv.toArray kp) :: (st, listOf [Value.ref c0, .int ((1 + (v + 1) : Nat) : Int) tp].toArray 0) :: (c0, listOf (vs.take 60).toArray 0) :: (L + 1, om2) :: tl, @Ne Nat x.1 I := fun x hx => hr x (.tail _ (.tail _ hx))
        have hI3 : @Ne Nat 203 I := hr _ (.head _)
        have hI9 : @Ne Nat 219 I := hr _ (.tail _ (.head _))
        show wpAny _ _ _ _ _ _
        k_fold
        k_steps
        refine Halt.out ?_
        rename Fr _ _ _ _ => F22
        rename News _ _ _ _ => N22
        refine' split_use (splitext_gives w hS (by omega) hc1 hc2 hq3) BMh rfl F22 X N22 T (by k_mem) ?sD ?sU ((I, oI) :: (203, tabObj ps3) :: (pl, listOf pv.toArray kp) :: (st, listOf [Value.ref c0, .int ((1 + (v + 1) : Nat) : Int) tp].toArray 0) :: (c0, listOf (vs.take 60).toArray 0) :: (L + 1, om2) :: tl) ?sr ?_
        case sD => walk_at "my room"
        case sU => walk_at "my units"
        case sr => exact List.forall_mem_cons.mpr ⟨⟨by k_mem, by k_ne⟩, List.forall_mem_cons.mpr ⟨⟨by k_mem, by k_ne⟩, fun x hx => ⟨.tail _ (.tail _ (.tail _ hx)), (hbase x hx).2⟩⟩⟩
        intro qs4 T4 kn4 a4 b4 sa4 sb4 ta4 tb4 h23 tk23 gs23 F23 N23 hne4 ht4 hg4 ea4 eb4 hI4
        subst ea4 eb4
        clear F22 N22
        k_steps
        refine Halt.out ?_
        rename Fr _ _ _ _ => F24
        rename News _ _ _ _ => N24
        refine' Gives.use (lsplit_gives w (by omega) hc1 hc2 (tl := tl) (k1 := kp) hdat) rfl F24 X N24 T ?rS ?rD ?rU ?_
        case rS => walk_at "news in"
        case rD => walk_at "my room"
        case rU => walk_at "my units"
        rintro r5 tl5 h25 tk25 F25 N25 ⟨T5, kn5, a5, b5, sa5, sb5, ta5, tb5, rfl, rfl, rfl, rfl, hI5⟩
        obtain ⟨rfl, rfl⟩ := isSplit_uniq hc1 hI4 hI5
        obtain ⟨sg1, sg2, sl1, sl2⟩ := split_sign hS hI4
        obtain ⟨wd1, wd2⟩ := isSplit_wid h8 hI4
        clear F24 N24 hI4 hI5
        simp only [List.cons_append, List.nil_append] at N25
        k_steps
        refine Halt.out ?_
        refine dat_ne N25 (d := Dat.tuple [.str ⟨a4.toArray⟩, .str ⟨b4.toArray⟩]) (DatIn.tuple (vs := [Value.str ⟨a4.toArray⟩ ta4, Value.str ⟨b4.toArray⟩ tb4]) (by k_mem) (.cons (.str _ _) (.cons (.str _ _) .nil))) (fun _ h => h) (DatIn.tuple (vs := [Value.str ⟨a4.toArray⟩ ta5, Value.str ⟨b4.toArray⟩ tb5]) (by k_mem) (.cons (.str _ _) (.cons (.str _ _) .nil))) (fun _ h => h) (ok_two sg1 sg2) (by walk_at "my units") ?_
        replace N25 : News g L h25 ((203, tabObj ps3) :: (219, tabObj qs4) :: (I, oI) :: (pl, listOf pv.toArray kp) :: (st, listOf [Value.ref c0, .int ((1 + (v + 1) : Nat) : Int) tp].toArray 0) :: (c0, listOf (vs.take 60).toArray 0) :: (L + 1, om2) :: tl) := cb_drop N25 (by walk_at "news in")
        k_steps
        refine Halt.out ?_
        rename Fr _ _ _ _ => F26
        rename News _ _ _ _ => N26
        refine' cell_use (celllen_gives w sg1 (by omega) ht3) BMh rfl F26 X N26 T (.head _) ?pD ?pU ((219, tabObj qs4) :: (I, oI) :: (pl, listOf pv.toArray kp) :: (st, listOf [Value.ref c0, .int ((1 + (v + 1) : Nat) : Int) tp].toArray 0) :: (c0, listOf (vs.take 60).toArray 0) :: (L + 1, om2) :: tl) ?pr ?_
        case pD => walk_at "my room"
        case pU => walk_at "my units"
        case pr => exact List.forall_mem_cons.mpr ⟨⟨by k_mem, by k_ne⟩, List.forall_mem_cons.mpr ⟨⟨by k_mem, by k_ne⟩, fun x hx => ⟨.tail _ (.tail _ (.tail _ hx)), (hbase x hx).1⟩⟩⟩
        intro ps5 u27 h27 tk27 gs27 F27 N27 ht27 hg27
        clear F26 N26
        rw [wd1]
        k_steps
        refine Halt.out ?_
        rename Fr _ _ _ _ => F28
        rename News _ _ _ _ => N28
        refine' cell_use (celllen_gives w sg2 (by omega) ht27) BMh rfl F28 X N28 T (.head _) ?oD ?oU ((219, tabObj qs4) :: (I, oI) :: (pl, listOf pv.toArray kp) :: (st, listOf [Value.ref c0, .int ((1 + (v + 1) : Nat) : Int) tp].toArray 0) :: (c0, listOf (vs.take 60).toArray 0) :: (L + 1, om2) :: tl) ?or ?_
        case oD => walk_at "my room"
        case oU => walk_at "my units"
        case or => exact List.forall_mem_cons.mpr ⟨⟨by k_mem, by k_ne⟩, List.forall_mem_cons.mpr ⟨⟨by k_mem, by k_ne⟩, fun x hx => ⟨.tail _ (.tail _ (.tail _ hx)), (hbase x hx).1⟩⟩⟩
        intro ps6 u29 h29 tk29 gs29 F29 N29 ht29 hg29
        clear F28 N28
        rw [wd2, show ((total l - (1 + i) : Nat) : Int) = ((total l : Nat) : Int) - ((1 + i : Nat) : Int) by omega]
        k_steps
        refine Halt.out ?_
        rename Fr _ _ _ _ => F30
        rename News _ _ _ _ => N30
        refine dat_ne N30 (d := Dat.list [.int ((1 + i : Nat) : Int), .int (((total l : Nat) : Int) - ((1 + i : Nat) : Int))]) (DatIn.list (vs := [Value.int ((1 + i : Nat) : Int) u27, Value.int (((total l : Nat) : Int) - ((1 + i : Nat) : Int)) u29]) (n := 0) (.tail _ (.head _)) (.cons (.int _ _) (.cons (.int _ _) .nil))) (fun _ h => h) (DatIn.list (vs := [Value.int ((1 + i : Nat) : Int) ti, Value.int (((total l : Nat) : Int) - ((1 + i : Nat) : Int)) tk29]) (n := 0) (.head _) (.cons (.int _ _) (.cons (.int _ _) .nil))) (fun _ h => h) rfl (by walk_at "my units") ?_
        replace N30 : News g L _ ((203, tabObj ps6) :: (219, tabObj qs4) :: (I, oI) :: (pl, listOf pv.toArray kp) :: (st, listOf [Value.ref c0, .int ((1 + (v + 1) : Nat) : Int) tp].toArray 0) :: (c0, listOf (vs.take 60).toArray 0) :: (L + 1, om2) :: tl) := cb_drop N30 (by walk_at "news in")
        k_steps
        exact ForNext.intro ((203, tabObj ps6) :: (219, tabObj qs4) :: (pl, listOf pv.toArray kp) :: (st, listOf [Value.ref c0, .int ((1 + (v + 1) : Nat) : Int) tp].toArray 0) :: (c0, listOf (vs.take 60).toArray 0) :: (L + 1, om2) :: tl) (by assumption) (by assumption) (by walk_at "news in") (List.forall_mem_cons.mpr ⟨hI3, List.forall_mem_cons.mpr ⟨hI9, hrI⟩⟩) ⟨ps6, qs4, rfl, ht29, ht4, fun G => hg29 (hg27 (hg4 (hg3 G))), by walk_at "knows"⟩
      · clear F20 N20
        rintro m rest gs h tk ⟨ps3, qs3, rfl, ht3, hq3, hg3, hk⟩ F21 N21
        replace F21 := fr_kn _ F21 hk
        clear hk
        show wpAny _ _ _ _ _ _
        k_fold
        k_steps
        refine Halt.out ?_
        rename Fr _ _ _ _ => F22
        rename News _ _ _ _ => N22
        refine' next_use (w := w) (lim := 3) (p := 1 + (v + 1)) (st := st) (sc := c0) (vs := vs.take 60) (n := 0) (k := 0) rfl F22 X N22 T ?nD ?nU (by k_mem) (by k_mem) (by k_ne) hv60 hl60 (by omega) (by omega) (by omega) ((203, tabObj ps3) :: (219, tabObj qs3) :: (pl, listOf pv.toArray kp) :: (L + 1, om2) :: tl) ?nr ?_
        case nD => walk_at "my room"
        case nU => walk_at "my units"
        case nr => exact List.forall_mem_cons.mpr ⟨⟨by k_mem, by k_ne, by k_ne⟩, List.forall_mem_cons.mpr ⟨⟨by k_mem, by k_ne, by k_ne⟩, List.forall_mem_cons.mpr ⟨⟨by k_mem, by k_ne, by k_ne⟩, List.forall_mem_cons.mpr ⟨⟨by k_mem, by k_ne, by k_ne⟩, fun x hx => ⟨.tail _ (.tail _ (.tail _ (.tail _ (.tail _ (.tail _ hx))))), tst x hx, tc0 x hx⟩⟩⟩⟩⟩
        intro v3 t31 u31 h31 tk31 hv3 F31 N31
        clear F22 N22
        replace N31 : News g L h31 ((pl, listOf pv.toArray kp) :: (203, tabObj ps3) :: (219, tabObj qs3) :: (L + 1, om2) :: tl) := cb_drop N31 (by walk_at "news in")
        k_steps
        refine Halt.out ?_
        have ewd : (2 + (v3 : Int)) = ((2 + v3 : Nat) : Int) := by omega
        rename Fr _ _ _ _ => F32
        rename News _ _ _ _ => N32
        rw [ewd] at F32
        rw [ewd]
        refine' Gives.use (chop_gives w hS (by omega) hlne (by omega) (by omega)) rfl F32 X N32 T (fun _ h => nomatch h) ?mD ?mU ?_
        case mD => walk_at "my room"
        case mU => walk_at "my units"
        rintro r6 tl6 h33 tk33 F33 N33 ⟨D6, vs6, k6, rfl, hm6, hd6⟩
        clear F32 N32
        have hN33 : ∀ p ∈ (pl, listOf pv.toArray kp) :: (203, tabObj ps3) :: (219, tabObj qs3) :: (L + 1, om2) :: tl, p ∈ tl6 ++ (pl, listOf pv.toArray kp) :: (203, tabObj ps3) :: (219, tabObj qs3) :: (L + 1, om2) :: tl := fun p hp => List.mem_append_right _ hp
        replace N33 : News g L h33 ((D6, listOf vs6.toArray k6) :: (pl, listOf pv.toArray kp) :: (203, tabObj ps3) :: (219, tabObj qs3) :: (L + 1, om2) :: tl) := cb_drop N33 (List.forall_mem_cons.mpr ⟨List.mem_append_left _ hm6, hN33⟩)
        clear hN33 hm6
        by_cases hT0 : total l = 0
        · have hTI : decide (((total l : Nat) : Int) > 0) = false := decide_eq_false (by omega)
          k_steps
          refine Halt.out ?_
          rename Fr _ _ _ _ => F34
          rename News _ _ _ _ => N34
          rw [show chopped l (2 + v3) = [] by unfold chopped; rw [if_pos hT0]] at hd6
          refine dat_eq N34 (d := Dat.list []) (DatIn.list (vs := vs6) (n := k6) (.tail _ (.head _)) (hd6.mono sub_nil)) (fun _ h => h) (DatIn.list (vs := []) (n := 0) (.head _) .nil) (fun _ h => h) rfl (by walk_at "my units") ?_
          k_steps
          exact RetP.introG [(203, tabObj ps3), (219, tabObj qs3)] (by assumption) (by assumption) (by walk_at "news in") ⟨⟨ps3, qs3, rfl, ht3, hq3⟩, hg3, rfl⟩
        · have hTI : decide (((total l : Nat) : Int) > 0) = true := decide_eq_true (by omega)
          k_steps
          refine Halt.out ?_
          rename Fr _ _ _ _ => F34
          rename News _ _ _ _ => N34
          have echop : chopped l (2 + v3) = chop l (2 + v3) (pcs l) [] 0 := by unfold chopped; rw [if_neg hT0]
          refine' Gives.use (lchop_gives w hll (wd := 2 + v3) (tl := tl) (k1 := kp) hdat) rfl F34 X N34 T ?lS ?lD ?lU ?_
          case lS => walk_at "news in"
          case lD => walk_at "my room"
          case lU => walk_at "my units"
          rintro r7 tl7 h35 tk35 F35 N35 ⟨D7, vs7, k7, rfl, rfl, hd7⟩
          clear F34 N34
          rw [← echop] at hd7
          simp only [List.cons_append, List.nil_append] at N35
          k_steps
          refine Halt.out ?_
          refine dat_eq N35 (d := Dat.list ((chopped l (2 + v3)).map ldat)) (DatIn.list (vs := vs6) (n := k6) (.tail _ (.head _)) (hd6.mono sub_nil)) (fun _ h => h) (DatIn.list (vs := vs7) (n := k7) (.head _) (hd7.mono sub_nil)) (fun _ h => h) (ok_lines fun x hx c hc => hS c (chop_mem (pcs l) [] 0 (fun _ h => nomatch h) x (echop ▸ hx) c hc)) (by walk_at "my units") ?_
          k_steps
          exact RetP.introG [(203, tabObj ps3), (219, tabObj qs3)] (by assumption) (by assumption) (by walk_at "news in") ⟨⟨ps3, qs3, rfl, ht3, hq3⟩, hg3, rfl⟩
end Mine
namespace Mine
open PySem PySem.Spec PySem.Calls PyProof.Rows PySem.W
/-- the end of the run is a good one: written for a law that hands back True -/
noncomputable def K2 (P : Params) : Frag := (219, tabObj #[]) :: hd.heap_39 P
theorem K2_in {P : Params} {h : Heap} (X : (K2 P).In h) : (hd.heap_39 P).In h := fun a o e => by
  refine X a o ?_
  show List.lookup a ((219, tabObj #[]) :: hd.heap_39 P) = some o
  rw [List.lookup_cons]
  by_cases q : a = 219
  · subst q
    have z : (hd.heap_39 P).lookup 219 = none := by kernel_rfl
    rw [z] at e
    cases e
  · have q2 : (a == 219) = false := beq_eq_false_iff_ne.mpr q
    rw [q2]
    exact e
theorem good_true {cl : Str → Option Addr} {mean : ExcName → Option Value} {args : List WData} {s₁ : Shared} {h' : Heap} {tk' : Nat} {gs' : Array GenState} (hT : TabsAt [(207, 203), (223, 219)] s₁.heap) (hgens : s₁.gens = #[])
    (hpost : PySem.Challenge.rw_fe0297_01.row.claim.post args (ofPy (.bool true)) args = true) (hr : ∀ cls, PySem.Challenge.rw_fe0297_01.row.claim.raises args cls = false)
    (keep : ∀ b o, (ghostOf s₁.heap [(207, 203), (223, 219)]).get? b = some o → h'.get? b = some o) (ps qs : Array Value) (h1 : h'.get? 203 = some (tabObj ps)) (h2 : h'.get? 219 = some (tabObj qs)) (hG : AllBare s₁.gens → AllBare gs') :
    GoodWG PySem.Challenge.rw_fe0297_01.row.claim cl mean args s₁ (.ok (.ret (.bool true))) { s₁ with heap := h', toks := tk', gens := gs' } := by
  have e3 := (hT (207, 203) (.head _)).2
  have e9 := (hT (223, 219) (.tail _ (.head _))).2
  have up : ∀ b o, b ≠ 203 → b ≠ 219 → s₁.heap.get? b = some o → h'.get? b = some o := fun b o q1 q2 e => keep b o (ghost_ne e fun hm => by
    rcases List.mem_cons.mp hm with hm | hm
    · exact q1 hm
    · exact q2 (List.mem_singleton.mp hm))
  refine ⟨.inl ⟨.bool true, _, [], rfl, hr, ?_, hpost, fun _ => ⟨List.nodup_nil, fun _ h => nomatch h⟩⟩, ⟨fun b o e => ?_, fun b o e => ?_⟩, rfl, hG (.of_eq hgens)⟩
  · exact readsW_of_reads (.bool true)
  · by_cases q1 : b = 203
    · subst q1
      rw [e3] at e
      cases e
      exact .inr (.inl ⟨((hT (207, 203) (.head _)).1.tab e3).isCodeTable, rfl, #[], ps, rfl, by rw [Array.empty_append]; exact h1⟩)
    · by_cases q2 : b = 219
      · subst q2
        rw [e9] at e
        cases e
        exact .inr (.inl ⟨((hT (223, 219) (.tail _ (.head _))).1.tab e9).isCodeTable, rfl, #[], qs, rfl, by rw [Array.empty_append]; exact h2⟩)
      · exact .inl (up b o q1 q2 e)
  · by_cases q1 : b = 203
    · subst q1; exact ⟨_, h1⟩
    · by_cases q2 : b = 219
      · subst q2; exact ⟨_, h2⟩
      · exact ⟨o, up b o q1 q2 e⟩
theorem post_true (ns : List Int) : PySem.Challenge.rw_fe0297_01.row.claim.post [ofPy (PyData.list (ns.map PyData.int))] (ofPy (PyData.bool true)) [ofPy (PyData.list (ns.map PyData.int))] = true := by
  with_unfolding_all rfl
theorem ints_vals {vs : List Value} {ns : List Int} (h : IntsAre vs ns) : ∀ v ∈ vs, ∃ i t, v = Value.int i t := by
  induction h with
  | nil => intro v hv; cases hv
  | cons n t _ ih =>
    intro v hv
    rcases List.mem_cons.mp hv with rfl | hv
    · exact ⟨_, _, rfl⟩
    · exact ih v hv
end Mine
open PySem PySem.Spec PySem.Calls PyProof.Rows PySem.W
theorem PySem.Challenge.cw_fe0297_01_holds : PySem.Challenge.rw_fe0297_01.Holds := by
  refine Mine.hd ?_
  intro w s₀ s₁ mg mb G Y fa o pm cd doc dV kV ho hdd hcd hD hmg hg args vals as hpre hlay hrd hwl hlo
  have KX2 : (Mine.K2 w.params).In s₁.heap := Y
  have KX : (Mine.hd.heap_39 w.params).In s₁.heap := Mine.K2_in KX2
  refine Ground.open G ?_
  intro T B D TE TW
  have h219 : s₁.heap.get? 219 = some (tabObj #[]) := KX2 219 _ rfl
  have hT9 : TabsAt [(207, 203), (223, 219)] s₁.heap := List.forall_mem_cons.mpr ⟨tab_of (x := PySem.Str.ofString "_cell_len") (c := 207) (P := 203) T KX rfl (by kernel_rfl), List.forall_mem_cons.mpr ⟨⟨⟨_, _, _, _, _, _, _, _, _, KX 223 _ rfl, rfl, rfl, rfl, rfl, rfl, rfl, rfl, rfl, by decide⟩, h219⟩, fun _ h => nomatch h⟩⟩
  have efa : fa = 276 := by
    have e1 := mg_of (n := PySem.Str.ofString "law") (v := .ref 276) KX T.g (by kernel_rfl)
    have e2 := hmg.symm.trans e1
    cases e2
    rfl
  subst efa
  have T' := ghost_top hT9 T
  have X' := ghost_K hT9 KX (by kernel_rfl)
  clear hmg hD hcd hdd ho TE TW B
  wrow_args hpre hlay hrd hwl hlo
  rename_i ns hsh hlay0 hL1 hr1 hl2 as4 as3 a vs as0 hL ra w1 r0 hI hr hc1 hc2
  have hZ := ghost_list hT9 hL
  have hvs : ∀ v ∈ vs, ∃ i t, v = Value.int i t := by
    exact Mine.ints_vals hI
  have hvl : vs.length < 1000 := by
    have := hI.length
    omega
  show wpAny _ callerA (call (.ref 276) [.ref a]) _ _ _
  refine Mine.law_gives w hvs hvl (ps := #[]) (qs := #[]) trivial trivial callerA mg mb _ _ s₁ _ _ hZ (Mine.BM.of T') rfl X' (topRead_of T') ?_ (by decide) (by decide) ?_
  · exact List.forall_mem_cons.mpr ⟨(hT9 _ (.head _)).2, List.forall_mem_cons.mpr ⟨h219, fun _ h => nomatch h⟩⟩
  · rintro r nw h' tk' gs' keep hn ⟨⟨ps', qs', rfl, _, _⟩, hG, rfl⟩
    exact Mine.good_true hT9 hg (Mine.post_true ns) (fun _ => rfl) keep ps' qs' (hn _ (.head _)).1 (hn _ (.tail _ (.head _))).1 hG
