import PyProof.Rows.All
import Wide.All
import OpenK.AllK
import Wide.FinOn
import PySem.Challenge.RW_mr0080_01
set_option Elab.async false
section
/-! part T1 -/
open PySem PySem.W PyProof.Rows
set_option maxRecDepth 100000
set_option maxHeartbeats 8000000
namespace Mine
open_top hd for PySem.Challenge.rw_mr0080_01
end Mine
end
section
/-! part M1 -/
open PySem
namespace Mine
/-! texts as lists of code points -/
abbrev tl (x : Str) : List Nat := x.cps.toList
theorem tl_inj {x y : Str} (h : tl x = tl y) : x = y := by
  cases x; cases y; simp only [tl] at h; simp only [Str.mk.injEq]; exact Array.toList_inj.mp h
theorem tl_length (x : Str) : (tl x).length = x.length := by simp [tl, Str.length]
/-- drop the signs that go, at the front and at the end -/
def lstripL (g : Nat → Bool) (l : List Nat) : List Nat := l.dropWhile g
def rstripL (g : Nat → Bool) (l : List Nat) : List Nat := (l.reverse.dropWhile g).reverse
theorem drop_takeWhile (g : Nat → Bool) : ∀ l : List Nat, l.drop (l.takeWhile g).length = l.dropWhile g
  | [] => rfl
  | a :: r => by
    cases h : g a
    · simp [h]
    · simp [h, drop_takeWhile g r]
theorem take_rev (g : Nat → Bool) (D : List Nat) : D.take (D.length - (D.reverse.takeWhile g).length) = rstripL g D := by
  unfold rstripL
  rw [← drop_takeWhile, List.reverse_drop]; simp
theorem stripped_tl (g : Nat → Bool) (a b : Bool) (x : Str) :
    tl (stripped g a b x) = (if b then rstripL g else id) ((if a then lstripL g else id) (tl x)) := by
  have e : ∀ lo, stripLo g a x = lo → (tl x).drop lo = (if a then lstripL g else id) (tl x) → tl (stripped g a b x) = (if b then rstripL g else id) ((if a then lstripL g else id) (tl x)) := by
    intro lo hlo hd
    unfold stripped
    rw [hlo, ← hd]
    show (Builtin.Str.strSub x lo (stripHi g b x lo)).cps.toList = _
    rw [StrLaws.strSub_toList]
    cases b
    · simp only [stripHi, Bool.false_eq_true, if_false, id]
      rw [List.take_of_length_le]
      simp [Str.length]
    · simp only [if_true]
      rw [← take_rev]
      congr 1
      show stripHi g true x lo - lo = _
      have e4 := tl_length x
      simp only [stripHi, if_true, List.length_drop]
      rw [e4]
      dsimp only [tl]
      omega
  refine e _ rfl ?_
  unfold stripLo
  cases a
  · simp
  · simp only [if_true]; exact drop_takeWhile g _
theorem stripBy_tl (g : Nat → Bool) (a b : Bool) (x : Str) : tl (Txt.stripBy g a b x) = (if b then rstripL g else id) ((if a then lstripL g else id) (tl x)) := by
  rw [PyProof.Rows.stripBy_eq]; exact stripped_tl g a b x
theorem strip_tl (x : Str) : tl (Txt.strip x) = rstripL Unicode.isSpace (lstripL Unicode.isSpace (tl x)) := stripBy_tl _ true true x
theorem lstripChars_tl (x y : Str) : tl (Txt.lstripChars x y) = lstripL y.cps.contains (tl x) := stripBy_tl _ true false x
theorem rstripChars_tl (x y : Str) : tl (Txt.rstripChars x y) = rstripL y.cps.contains (tl x) := stripBy_tl _ false true x
/-- what replace does: from the left, no two overlapping; the number is what is still to be skipped -/
def rep (y z : List Nat) : Nat → List Nat → List Nat
  | _, [] => []
  | k + 1, _ :: r => rep y z k r
  | 0, a :: r => if y.isPrefixOf (a :: r) then z ++ rep y z (y.length - 1) r else a :: rep y z 0 r
def occF (y : List Nat) : Nat → Nat → List Nat → List Nat
  | _, _, [] => []
  | i, k + 1, _ :: r => occF y (i + 1) k r
  | i, 0, a :: r => if y.isPrefixOf (a :: r) then i :: occF y (i + 1) (y.length - 1) r else occF y (i + 1) 0 r
theorem prefix_take (y l : List Nat) : (y.isPrefixOf l = true) ↔ (y.length ≤ l.length ∧ (l.take y.length == y) = true) := by
  rw [List.isPrefixOf_iff_prefix, beq_iff_eq]
  constructor
  · intro h
    exact ⟨h.length_le, (List.prefix_iff_eq_take.mp h).symm⟩
  · rintro ⟨_, h⟩
    exact List.prefix_iff_eq_take.mpr h.symm
theorem occ_run (x y : Str) (hy : 0 < y.length) : ∀ (rest : List Nat) (i free : Nat) (found : Array Nat), tl x = (tl x).take i ++ rest → i + rest.length = x.length → found.size ≤ i →
    (forIn (List.range' i (rest.length + 1)) (found, free) (StrLaws.occBody x y x.length (x.length + 1))).run.fst.toList = found.toList ++ occF (tl y) i (free - i) rest
  | [], i, free, found, hx, hl, hf => by
    simp only [List.length_nil, Nat.zero_add, List.range'_one, List.forIn_cons, List.forIn_nil]
    unfold StrLaws.occBody
    have hn : ¬ (((found.size < x.length + 1 ∧ free ≤ i) ∧ i + y.length ≤ x.length) ∧ Builtin.Str.subAt x y i = true) := by
      simp only [List.length_nil, Nat.add_zero] at hl
      intro h; omega
    rw [if_neg hn]
    cases (free - i) <;> simp [occF]
  | a :: r, i, free, found, hx, hl, hf => by
    have hd : (tl x).drop i = a :: r := by
      rw [hx, List.drop_append]
      have : ((tl x).take i).length = i := by
        rw [List.length_take, tl_length]; simp only [List.length_cons] at hl; omega
      rw [this]; simp
    have hx' : tl x = (tl x).take (i + 1) ++ r := by
      have := (List.take_append_drop (i + 1) (tl x)).symm
      have e2 : (tl x).drop (i + 1) = r := by rw [← List.drop_drop, hd]; rfl
      rw [e2] at this; exact this
    have hl' : i + 1 + r.length = x.length := by simp only [List.length_cons] at hl; omega
    rw [List.length_cons, List.range'_succ, List.forIn_cons]
    have hs : Builtin.Str.subAt x y i = ((a :: r).take y.length == tl y) := by
      rw [StrLaws.subAt_eq]; show (((tl x).drop i).take y.length == tl y) = _; rw [hd]
    have hpi := prefix_take (tl y) (a :: r)
    rw [tl_length] at hpi
    unfold StrLaws.occBody
    by_cases hfree : free ≤ i
    · have hk : free - i = 0 := by omega
      rw [hk]
      by_cases hp : (tl y).isPrefixOf (a :: r) = true
      · have hq := hpi.mp hp
        have hc : (((found.size < x.length + 1 ∧ free ≤ i) ∧ i + y.length ≤ x.length) ∧ Builtin.Str.subAt x y i = true) := by
          rw [hs]; exact ⟨⟨⟨by simp only [List.length_cons] at hl; omega, hfree⟩, by have := hq.1; simp only [List.length_cons] at this hl; omega⟩, hq.2⟩
        rw [if_pos hc]
        show (forIn (List.range' (i + 1) (r.length + 1)) (found.push i, i + y.length) (StrLaws.occBody x y x.length (x.length + 1))).run.fst.toList = _
        rw [occ_run x y hy r (i + 1) (i + y.length) (found.push i) hx' hl' (by simp; omega)]
        have e3 : occF (tl y) i 0 (a :: r) = i :: occF (tl y) (i + 1) ((tl y).length - 1) r := by
          conv => lhs; unfold occF
          rw [if_pos hp]
        rw [e3, tl_length]
        have : i + y.length - (i + 1) = y.length - 1 := by omega
        rw [this]; simp
      · have hc : ¬ (((found.size < x.length + 1 ∧ free ≤ i) ∧ i + y.length ≤ x.length) ∧ Builtin.Str.subAt x y i = true) := by
          rw [hs]; rintro ⟨⟨_, h1⟩, h2⟩
          exact hp (hpi.mpr ⟨by simp only [List.length_cons] at hl ⊢; omega, h2⟩)
        rw [if_neg hc]
        show (forIn (List.range' (i + 1) (r.length + 1)) (found, free) (StrLaws.occBody x y x.length (x.length + 1))).run.fst.toList = _
        rw [occ_run x y hy r (i + 1) free found hx' hl' (by omega)]
        have h0 : free - (i + 1) = 0 := by omega
        rw [h0]
        conv => rhs; unfold occF
        rw [if_neg hp]
    · have hc : ¬ (((found.size < x.length + 1 ∧ free ≤ i) ∧ i + y.length ≤ x.length) ∧ Builtin.Str.subAt x y i = true) := fun h => hfree h.1.1.2
      rw [if_neg hc]
      show (forIn (List.range' (i + 1) (r.length + 1)) (found, free) (StrLaws.occBody x y x.length (x.length + 1))).run.fst.toList = _
      rw [occ_run x y hy r (i + 1) free found hx' hl' (by omega)]
      obtain ⟨k, hk⟩ : ∃ k, free - i = k + 1 := ⟨free - i - 1, by omega⟩
      rw [hk]
      have : free - (i + 1) = k := by omega
      rw [this]
      conv => rhs; unfold occF
theorem occ_is (x y : Str) (hy : 0 < y.length) : Builtin.Str.occurrences x y 0 x.length (x.length + 1) = occF (tl y) 0 0 (tl x) := by
  rw [StrLaws.occ_eq]
  have h := occ_run x y hy (tl x) 0 0 #[] (by simp) (by rw [tl_length]; omega) (by simp)
  rw [tl_length] at h
  have e : x.length + 1 - 0 = x.length + 1 := by omega
  rw [e, h]; simp
/-- the parts between the cuts, glued -/
def gl (l z : List Nat) (w s : Nat) : List Nat → List Nat
  | [] => l.drop s
  | c :: cs => (l.drop s).take (c - s) ++ z ++ gl l z w (c + w) cs
theorem join_tl_cons (z p q : Str) (r : List Str) : tl (Str.join z (p :: q :: r)) = tl p ++ tl z ++ tl (Str.join z (q :: r)) := by
  show (p ++ z ++ Str.join z (q :: r)).cps.toList = _
  simp only [Str.cps_append, Array.toList_append]
theorem gl_is (x z : Str) (w : Nat) : ∀ (cs : List Nat) (s : Nat), tl (Str.join z (((s :: cs.map (· + w)).zip (cs ++ [x.length])).map fun (i, j) => Builtin.Str.strSub x i j)) = gl (tl x) (tl z) w s cs
  | [], s => by
    simp only [List.map_nil, List.nil_append, List.zip_cons_cons, List.zip_nil_right, List.map_cons, Str.join, gl]
    show (Builtin.Str.strSub x s x.length).cps.toList = _
    rw [StrLaws.strSub_toList, List.take_of_length_le]
    rw [List.length_drop, Array.length_toList]; exact Nat.le_refl _
  | c :: cs, s => by
    have ih := gl_is x z w cs (c + w)
    simp only [List.map_cons, List.cons_append, List.zip_cons_cons] at ih ⊢
    have : ∃ q r, (((c + w) :: cs.map (· + w)).zip (cs ++ [x.length])).map (fun (p : Nat × Nat) => Builtin.Str.strSub x p.1 p.2) = q :: r := by
      cases cs with
      | nil => exact ⟨_, _, rfl⟩
      | cons d ds => exact ⟨_, _, rfl⟩
    obtain ⟨q, r, hqr⟩ := this
    have hqr' : (((c + w) :: cs.map (· + w)).zip (cs ++ [x.length])).map (fun (i, j) => Builtin.Str.strSub x i j) = q :: r := hqr
    rw [hqr'] at ih ⊢
    rw [join_tl_cons, ih]
    show _ = (List.drop s (tl x)).take (c - s) ++ tl z ++ gl (tl x) (tl z) w (c + w) cs
    congr 2
    exact StrLaws.strSub_toList x s c
theorem gl_rep (l y z : List Nat) (hy : 0 < y.length) : ∀ (rest : List Nat) (i k s : Nat), l.drop i = rest → (k = 0 → s ≤ i) → (0 < k → s = i + k ∧ k ≤ rest.length) →
    gl l z y.length s (occF y i k rest) = (if k = 0 then (l.drop s).take (i - s) else []) ++ rep y z k rest
  | [], i, k, s, hd, h0, h1 => by
    have hk : k = 0 := by
      rcases Nat.eq_zero_or_pos k with h | h
      · exact h
      · have := (h1 h).2; simp at this; exact this
    subst hk
    simp only [occF, gl, rep, if_true, List.append_nil]
    have hle : l.length ≤ i := by
      have := congrArg List.length hd; simp at this; omega
    rw [List.take_of_length_le]; rw [List.length_drop]; omega
  | a :: r, i, k + 1, s, hd, h0, h1 => by
    obtain ⟨e, hk⟩ := h1 (Nat.succ_pos k)
    unfold occF rep
    rw [if_neg (Nat.succ_ne_zero k), List.nil_append]
    have hd' : l.drop (i + 1) = r := by rw [← List.drop_drop, hd]; rfl
    rw [gl_rep l y z hy r (i + 1) k s hd' (fun h => by omega) (fun h => ⟨by omega, by simp only [List.length_cons] at hk; omega⟩)]
    by_cases hk0 : k = 0
    · subst hk0
      rw [if_pos rfl]
      have : i + 1 - s = 0 := by omega
      rw [this]; simp
    · rw [if_neg hk0]; rfl
  | a :: r, i, 0, s, hd, h0, h1 => by
    have hs := h0 rfl
    have hd' : l.drop (i + 1) = r := by rw [← List.drop_drop, hd]; rfl
    rw [if_pos rfl]
    unfold occF rep
    by_cases hp : y.isPrefixOf (a :: r) = true
    · rw [if_pos hp, if_pos hp]
      have hlen := ((prefix_take y (a :: r)).mp hp).1
      simp only [List.length_cons] at hlen
      unfold gl
      rw [gl_rep l y z hy r (i + 1) (y.length - 1) (i + y.length) hd' (fun h => by omega) (fun h => ⟨by omega, by omega⟩)]
      by_cases hk0 : y.length - 1 = 0
      · rw [if_pos hk0]
        have : i + 1 - (i + y.length) = 0 := by omega
        rw [this]; simp
      · rw [if_neg hk0]; simp
    · rw [if_neg hp, if_neg hp]
      rw [gl_rep l y z hy r (i + 1) 0 s hd' (fun _ => by omega) (fun h => absurd h (Nat.lt_irrefl 0)), if_pos rfl]
      have e1 : i + 1 - s = (i - s) + 1 := by omega
      have e2 : (l.drop s).drop (i - s) = a :: r := by rw [List.drop_drop]; have : s + (i - s) = i := by omega
                                                       rw [this, hd]
      rw [e1, List.take_add_one]
      have : (l.drop s)[i - s]? = some a := by
        have := congrArg List.head? e2
        rw [List.head?_drop] at this; exact this
      rw [this]; simp
theorem rep_none (y z : List Nat) : ∀ (l : List Nat) (i : Nat), occF y i 0 l = [] → rep y z 0 l = l
  | [], _, _ => rfl
  | a :: r, i, h => by
    unfold occF at h; unfold rep
    by_cases hp : y.isPrefixOf (a :: r) = true
    · rw [if_pos hp] at h; cases h
    · rw [if_neg hp] at h ⊢
      rw [rep_none y z r (i + 1) h]
theorem replace_tl (x y z : Str) (hy : 0 < y.length) : tl (Txt.replace x y z) = rep (tl y) (tl z) 0 (tl x) := by
  have h0 : (y.length == 0) = false := by rw [beq_eq_false_iff_ne]; omega
  unfold Txt.replace
  rw [h0, Bool.false_and, Bool.or_false, occ_is x y hy]
  cases he : (occF (tl y) 0 0 (tl x)).isEmpty
  · rw [if_neg Bool.false_ne_true, StrLaws.glued_eq_join]
    unfold Builtin.Str.partsBetween
    have g := gl_is x z y.length (occF (tl y) 0 0 (tl x)) 0
    simp only at g ⊢
    rw [g]
    have q := gl_rep (tl x) (tl y) (tl z) (by rw [tl_length]; exact hy) (tl x) 0 0 0 rfl (fun _ => Nat.le_refl _) (fun h => absurd h (Nat.lt_irrefl 0))
    rw [tl_length] at q
    rw [q]; simp
  · rw [if_pos rfl]
    exact (rep_none _ _ _ 0 (List.isEmpty_iff.mp he)).symm
end Mine
end
section
/-! part M2 -/
namespace Mine
/-! plain lists of code points: what _platform, _law_clean and _law_joined reckon -/
def wh (c : Nat) : Bool := c == 32 || c == 9
def mc (c : Nat) : Nat := if c = 32 then 95 else if c = 47 ∨ c = 92 ∨ c = 58 ∨ c = 59 ∨ c = 34 ∨ c = 40 ∨ c = 41 then 45 else c
def unk : List Nat := [117, 110, 107, 110, 111, 119, 110]
def unkr : List Nat := [110, 119, 111, 110, 107, 110, 117]
def stripL (l : List Nat) : List Nat := rstripL wh (lstripL wh l)
def Rm (l : List Nat) : List Nat := rep unk [] 0 l
def dd : List Nat := [45, 45]
def sq1 (l : List Nat) : List Nat := rep dd [45] 0 l
def Hf : Bool → List Nat → List Nat
  | _, [] => []
  | b, c :: r => if c = 45 then (if b then Hf true r else 45 :: Hf true r) else c :: Hf false r
def Tr (l : List Nat) : List Nat := rstripL (· == 45) l
def plat1 (l : List Nat) : List Nat := Tr (Hf false (Rm ((stripL l).map mc)))
def pst (t : List Nat) (c : Nat) : List Nat :=
  if (if c = 45 ∧ t.head? = some 45 then t else c :: t).take 7 = unkr then (if c = 45 ∧ t.head? = some 45 then t else c :: t).drop 7
  else (if c = 45 ∧ t.head? = some 45 then t else c :: t)
def ends (l : List Nat) : List Nat := rstripL (fun c => c == 45 || c == 9) (lstripL (· == 9) l)
def cleanL (l : List Nat) : List Nat := ends ((((stripL l).map mc).foldl pst []).reverse)
/-- the normal texts -/
structure Nm (n : List Nat) : Prop where
  fixed : ∀ c ∈ n, mc c = c
  nodd : ¬ dd <:+: n
  nounk : ¬ unk <:+: n
  front : n.head? ≠ some 9
  back : n.getLast? ≠ some 45 ∧ n.getLast? ≠ some 9
/-! rep -/
theorem rep_skip (y z : List Nat) : ∀ (l : List Nat) (k : Nat), rep y z k l = rep y z 0 (l.drop k)
  | [], k => by cases k <;> simp [rep]
  | a :: r, 0 => by simp
  | a :: r, k + 1 => by
    show rep y z k r = _
    rw [rep_skip y z r k]; simp
theorem rep_hit (y z r : List Nat) (hy : 0 < y.length) : rep y z 0 (y ++ r) = z ++ rep y z 0 r := by
  obtain ⟨a, y', rfl⟩ : ∃ a y', y = a :: y' := by
    cases y with
    | nil => simp at hy
    | cons a y' => exact ⟨a, y', rfl⟩
  show rep (a :: y') z 0 (a :: (y' ++ r)) = _
  unfold rep
  have hp : (a :: y').isPrefixOf (a :: (y' ++ r)) = true := by rw [List.isPrefixOf_iff_prefix]; exact ⟨r, rfl⟩
  rw [if_pos hp, rep_skip]
  simp
  cases r <;> simp [rep]
theorem rep_miss (y z : List Nat) (a : Nat) (r : List Nat) (h : ¬ y <+: a :: r) : rep y z 0 (a :: r) = a :: rep y z 0 r := by
  conv => lhs; unfold rep
  rw [if_neg (by rw [List.isPrefixOf_iff_prefix]; exact h)]
theorem rep_nil (y z : List Nat) : rep y z 0 [] = [] := rfl
/-- strong induction along rep -/
theorem rep_ind (y : List Nat) (hy : 0 < y.length) {P : List Nat → Prop} (h0 : P []) (h1 : ∀ r, P r → P (y ++ r)) (h2 : ∀ a r, ¬ y <+: a :: r → P r → P (a :: r)) : ∀ l, P l := by
  intro l
  have all : ∀ n (l : List Nat), l.length < n → P l := by
    intro n
    induction n with
    | zero => intro l h; exact absurd h (Nat.not_lt_zero _)
    | succ n ih =>
      intro l hl
      cases l with
      | nil => exact h0
      | cons a r =>
        by_cases hp : y <+: a :: r
        · obtain ⟨t, ht⟩ := hp
          rw [← ht]
          exact h1 t (ih t (by have := congrArg List.length ht; simp only [List.length_append, List.length_cons] at this hl; omega))
        · exact h2 a r hp (ih r (by simp only [List.length_cons] at hl; omega))
  exact all _ l (Nat.lt_succ_self _)
theorem rep_same (y z : List Nat) : ∀ l : List Nat, ¬ y <:+: l → rep y z 0 l = l
  | [], _ => rfl
  | a :: r, h => by
    rw [rep_miss y z a r (fun hp => h hp.isInfix), rep_same y z r (fun hp => h (hp.trans (List.suffix_cons a r).isInfix))]
theorem rep_short (y z : List Nat) (hyz : z.length < y.length) : ∀ l : List Nat, (rep y z 0 l).length ≤ l.length ∧ (y <:+: l → (rep y z 0 l).length < l.length) := by
  refine rep_ind y (by omega) ⟨Nat.le_refl _, fun h => ?_⟩ (fun r ih => ?_) fun a r hp ih => ?_
  · have := h.length_le; simp at this; subst this; simp at hyz
  · rw [rep_hit y z r (by omega)]
    simp only [List.length_append]
    exact ⟨by omega, fun _ => by omega⟩
  · rw [rep_miss y z a r hp]
    simp only [List.length_cons]
    refine ⟨by omega, fun hi => ?_⟩
    rcases List.infix_cons_iff.mp hi with h | h
    · exact absurd h hp
    · have := ih.2 h; omega
theorem rep_fix (y z : List Nat) (hyz : z.length < y.length) (l : List Nat) : rep y z 0 l = l ↔ ¬ y <:+: l :=
  ⟨fun e h => by have := (rep_short y z hyz l).2 h; rw [e] at this; exact Nat.lt_irrefl _ this, rep_same y z l⟩
/-- one sign for one sign -/
theorem rep_one (c d : Nat) : ∀ l : List Nat, rep [c] [d] 0 l = l.map fun a => if a = c then d else a
  | [] => rfl
  | a :: r => by
    by_cases h : a = c
    · subst h
      have := rep_hit [a] [d] r (by simp)
      simp only [List.singleton_append] at this
      rw [this, rep_one a d r]; simp
    · rw [rep_miss [c] [d] a r (fun hp => h (by obtain ⟨t, ht⟩ := hp; simp only [List.cons_append, List.nil_append, List.cons.injEq] at ht; exact ht.1.symm)), rep_one c d r]; simp [h]
/-! the pile -/
theorem pst_hyphen (t : List Nat) : pst t 45 = if t.head? = some 45 then t else 45 :: t := by
  unfold pst
  by_cases h : t.head? = some 45
  · simp only [h, and_self, if_true]
    have : ¬ (t.take 7 = unkr) := by
      cases t with
      | nil => simp at h
      | cons a r => simp at h; subst h; simp [unkr]
    rw [if_neg this]
  · simp only [h, and_false, if_false]
    rw [if_neg (by simp [unkr])]
theorem pst_hyphen_head (t : List Nat) : (pst t 45).head? = some 45 := by
  rw [pst_hyphen]; split
  · assumption
  · rfl
theorem pst_hyphen_twice (t : List Nat) (h : t.head? = some 45) : pst t 45 = t := by rw [pst_hyphen, if_pos h]
theorem pst_tab (t : List Nat) : pst t 9 = 9 :: t := by
  unfold pst; simp [unkr]
theorem pst_unk (t : List Nat) : unk.foldl pst t = t := by
  simp [unk, pst, unkr]
theorem pst_rm (l : List Nat) : ∀ t, (Rm l).foldl pst t = l.foldl pst t := by
  unfold Rm
  refine rep_ind unk (by decide) (P := fun l => ∀ t, (rep unk [] 0 l).foldl pst t = l.foldl pst t) (fun t => rfl) (fun r ih t => ?_) (fun a r hp ih t => ?_) l
  · rw [rep_hit unk [] r (by decide), List.nil_append, List.foldl_append, pst_unk, ih]
  · rw [rep_miss unk [] a r hp, List.foldl_cons, List.foldl_cons, ih]
theorem pst_Hf : ∀ (l : List Nat) (b : Bool) (t : List Nat), (b = true → t.head? = some 45) → (Hf b l).foldl pst t = l.foldl pst t
  | [], _, _, _ => by simp [Hf]
  | c :: r, b, t, h => by
    unfold Hf
    by_cases hc : c = 45
    · subst hc
      rw [if_pos rfl]
      cases b with
      | true =>
        rw [if_pos rfl, pst_Hf r true t h, List.foldl_cons, pst_hyphen_twice t (h rfl)]
      | false =>
        rw [if_neg Bool.false_ne_true, List.foldl_cons, List.foldl_cons, pst_Hf r true _ (fun _ => pst_hyphen_head t)]
    · rw [if_neg hc, List.foldl_cons, List.foldl_cons, pst_Hf r false _ (fun e => absurd e Bool.false_ne_true)]
theorem head_snoc9 (t : List Nat) : ((t ++ [9]).head? = some 45) ↔ (t.head? = some 45) := by
  cases t <;> simp
theorem take7_snoc9 (t : List Nat) : ((t ++ [9]).take 7 = unkr) ↔ (t.take 7 = unkr) := by
  by_cases h : 7 ≤ t.length
  · rw [List.take_append_of_le_length h]
  · constructor
    · intro e
      have : 9 ∈ (t ++ [9]).take 7 := by
        rw [List.take_of_length_le (by simp; omega)]; simp
      rw [e] at this; simp [unkr] at this
    · intro e
      have := congrArg List.length e
      simp [unkr] at this; omega
theorem pst_snoc9 (t : List Nat) (c : Nat) : pst (t ++ [9]) c = pst t c ++ [9] := by
  have key : ∀ t1 : List Nat, (if (t1 ++ [9]).take 7 = unkr then (t1 ++ [9]).drop 7 else t1 ++ [9]) = (if t1.take 7 = unkr then t1.drop 7 else t1) ++ [9] := by
    intro t1
    by_cases e : t1.take 7 = unkr
    · rw [if_pos e, if_pos ((take7_snoc9 t1).mpr e)]
      have : 7 ≤ t1.length := by have := congrArg List.length e; simp [unkr] at this; omega
      rw [List.drop_append_of_le_length this]
    · rw [if_neg e, if_neg (fun q => e ((take7_snoc9 t1).mp q))]
  unfold pst
  simp only [head_snoc9]
  by_cases h : c = 45 ∧ t.head? = some 45
  · simp only [h, and_self, if_true]; exact key t
  · simp only [if_neg h]; exact key (c :: t)
theorem fold_snoc9 : ∀ (l t : List Nat), l.foldl pst (t ++ [9]) = l.foldl pst t ++ [9]
  | [], _ => rfl
  | c :: r, t => by rw [List.foldl_cons, List.foldl_cons, pst_snoc9, fold_snoc9 r]
/-! the ends -/
theorem rstrip_snoc (g : Nat → Bool) (l : List Nat) (x : Nat) (h : g x = true) : rstripL g (l ++ [x]) = rstripL g l := by
  unfold rstripL; rw [List.reverse_append]; simp [h]
theorem rstrip_keep (g : Nat → Bool) (l : List Nat) (x : Nat) (h : g x = false) : rstripL g (l ++ [x]) = l ++ [x] := by
  unfold rstripL; rw [List.reverse_append]; simp [h]
theorem ends_tab (l : List Nat) : ends (9 :: l) = ends l := by unfold ends lstripL; simp
theorem ends_snoc (l : List Nat) (x : Nat) (h : x = 45 ∨ x = 9) : ends (l ++ [x]) = ends l := by
  unfold ends lstripL
  have hx : (fun c : Nat => c == 45 || c == 9) x = true := by simpa using h
  rw [List.dropWhile_append]
  by_cases e : (l.dropWhile (· == 9)).isEmpty = true
  · rw [if_pos e, List.isEmpty_iff.mp e]
    by_cases h9 : x = 9
    · simp [h9]
    · rw [List.dropWhile_cons_of_neg (by simpa using h9)]
      exact rstrip_snoc _ [] x hx
  · rw [if_neg e]; exact rstrip_snoc _ _ x hx
/-- what stands around a stripped text -/
theorem lstrip_split (g : Nat → Bool) (l : List Nat) : ∃ a, l = a ++ lstripL g l ∧ (∀ c ∈ a, g c = true) := by
  refine ⟨l.takeWhile g, ?_, fun c hc => ?_⟩
  · unfold lstripL; exact (List.takeWhile_append_dropWhile).symm
  · have := List.all_takeWhile (p := g) (l := l); rw [List.all_eq_true] at this; exact this c hc
theorem rstrip_split (g : Nat → Bool) (l : List Nat) : ∃ a, l = rstripL g l ++ a ∧ (∀ c ∈ a, g c = true) := by
  obtain ⟨a, h1, h2⟩ := lstrip_split g l.reverse
  refine ⟨a.reverse, ?_, fun c hc => h2 c (by simpa using hc)⟩
  have := congrArg List.reverse h1
  simp only [List.reverse_reverse, List.reverse_append] at this
  unfold rstripL; exact this
theorem lstrip_head (g : Nat → Bool) (l : List Nat) (c : Nat) (h : (lstripL g l).head? = some c) : g c = false := by
  unfold lstripL at h
  have := List.head?_dropWhile_not g l
  rw [h] at this; simpa using this
theorem rstrip_last (g : Nat → Bool) (l : List Nat) (c : Nat) (h : (rstripL g l).getLast? = some c) : g c = false := by
  unfold rstripL at h
  rw [List.getLast?_reverse] at h
  exact lstrip_head g l.reverse c h
theorem lstrip_id (g : Nat → Bool) (l : List Nat) (h : ∀ c, l.head? = some c → g c = false) : lstripL g l = l := by
  unfold lstripL
  cases l with
  | nil => rfl
  | cons a r => rw [List.dropWhile_cons_of_neg (by have := h a rfl; simp [this])]
theorem rstrip_id (g : Nat → Bool) (l : List Nat) (h : ∀ c, l.getLast? = some c → g c = false) : rstripL g l = l := by
  have := lstrip_id g l.reverse (fun c hc => h c (by rw [List.head?_reverse] at hc; exact hc))
  unfold rstripL; unfold lstripL at this; rw [this, List.reverse_reverse]
theorem rstrip_head (g : Nat → Bool) (l : List Nat) (c : Nat) (h : (rstripL g l).head? = some c) : l.head? = some c := by
  obtain ⟨a, h1, _⟩ := rstrip_split g l
  rw [h1]
  cases q : rstripL g l with
  | nil => rw [q] at h; cases h
  | cons x r => rw [q] at h; simpa using h
theorem strip_split (l : List Nat) : ∃ a b, l = a ++ stripL l ++ b ∧ (∀ c ∈ a, wh c = true) ∧ (∀ c ∈ b, wh c = true) := by
  obtain ⟨a, h1, h2⟩ := lstrip_split wh l
  obtain ⟨b, h3, h4⟩ := rstrip_split wh (lstripL wh l)
  refine ⟨a, b, ?_, h2, h4⟩
  unfold stripL
  rw [List.append_assoc, ← h3]; exact h1
theorem strip_head (l : List Nat) (c : Nat) (h : (stripL l).head? = some c) : wh c = false :=
  lstrip_head wh l c (rstrip_head wh _ c h)
theorem strip_last (l : List Nat) (c : Nat) (h : (stripL l).getLast? = some c) : wh c = false := rstrip_last wh _ c h
/-! preserved: what the pile makes -/
def tabsOnly (a : List Nat) : Prop := ∀ c ∈ a, c = 9
theorem fold_tabs (a l : List Nat) (h : tabsOnly a) : ends (((a ++ l).foldl pst []).reverse) = ends ((l.foldl pst []).reverse) := by
  induction a with
  | nil => rfl
  | cons c r ih =>
    have hc : c = 9 := h c (.head _)
    subst hc
    rw [List.cons_append, List.foldl_cons, pst_tab]
    have := fold_snoc9 (r ++ l) []
    simp only [List.nil_append] at this
    rw [this, List.reverse_append]
    show ends (9 :: _) = _
    rw [ends_tab]; exact ih fun c hc => h c (.tail _ hc)
theorem fold_back (l b : List Nat) (h : ∀ c ∈ b, c = 45 ∨ c = 9) : ends (((l ++ b).foldl pst []).reverse) = ends ((l.foldl pst []).reverse) := by
  induction b generalizing l with
  | nil => simp
  | cons c r ih =>
    have e : l ++ c :: r = (l ++ [c]) ++ r := by simp
    rw [e, ih (l ++ [c]) fun x hx => h x (.tail _ hx), List.foldl_append, List.foldl_cons, List.foldl_nil]
    rcases h c (.head _) with rfl | rfl
    · rw [pst_hyphen]
      split
      · rfl
      · rw [List.reverse_cons, ends_snoc _ _ (.inl rfl)]
    · rw [pst_tab, List.reverse_cons, ends_snoc _ _ (.inr rfl)]
theorem mc_mc (c : Nat) : mc (mc c) = mc c := by
  unfold mc
  by_cases h1 : c = 32
  · simp [h1]
  · by_cases h2 : c = 47 ∨ c = 92 ∨ c = 58 ∨ c = 59 ∨ c = 34 ∨ c = 40 ∨ c = 41
    · simp [h1, h2]
    · simp [h1, h2]
theorem mc_not32 {c : Nat} (h : mc c = c) : c ≠ 32 := by
  rintro rfl; revert h; decide
theorem map_fixed {l : List Nat} (h : ∀ c ∈ l, mc c = c) : l.map mc = l := by
  conv => rhs; rw [← List.map_id l]
  exact List.map_congr_left fun c hc => h c hc
theorem mem_rep (y z : List Nat) (c : Nat) : ∀ (l : List Nat) (k : Nat), c ∈ rep y z k l → c ∈ l ∨ c ∈ z
  | [], k, h => by cases k <;> simp [rep] at h
  | a :: r, k + 1, h => by
    rcases mem_rep y z c r k h with q | q
    · exact .inl (.tail _ q)
    · exact .inr q
  | a :: r, 0, h => by
    unfold rep at h
    split at h
    · rcases List.mem_append.mp h with q | q
      · exact .inr q
      · rcases mem_rep y z c r _ q with q | q
        · exact .inl (.tail _ q)
        · exact .inr q
    · rcases List.mem_cons.mp h with rfl | q
      · exact .inl (.head _)
      · rcases mem_rep y z c r 0 q with q | q
        · exact .inl (.tail _ q)
        · exact .inr q
theorem mem_Hf (c : Nat) : ∀ (l : List Nat) (b : Bool), c ∈ Hf b l → c ∈ l
  | [], b, h => by simp [Hf] at h
  | a :: r, b, h => by
    unfold Hf at h
    split at h
    · rename_i ha
      split at h
      · exact .tail _ (mem_Hf c r true h)
      · rcases List.mem_cons.mp h with rfl | q
        · rw [ha]; exact .head _
        · exact .tail _ (mem_Hf c r true q)
    · rcases List.mem_cons.mp h with rfl | q
      · exact .head _
      · exact .tail _ (mem_Hf c r false q)
theorem mem_rstrip {g : Nat → Bool} {l : List Nat} {c : Nat} (h : c ∈ rstripL g l) : c ∈ l := by
  obtain ⟨a, h1, _⟩ := rstrip_split g l
  rw [h1]; exact List.mem_append_left _ h
theorem mem_lstrip {g : Nat → Bool} {l : List Nat} {c : Nat} (h : c ∈ lstripL g l) : c ∈ l := by
  obtain ⟨a, h1, _⟩ := lstrip_split g l
  rw [h1]; exact List.mem_append_right _ h
theorem mem_strip {l : List Nat} {c : Nat} (h : c ∈ stripL l) : c ∈ l := mem_lstrip (mem_rstrip h)
theorem plat1_fixed (l : List Nat) : ∀ c ∈ plat1 l, mc c = c := by
  intro c hc
  have h1 := mem_Hf c _ _ (mem_rstrip hc)
  rcases mem_rep unk [] c _ _ h1 with h | h
  · obtain ⟨x, _, rfl⟩ := List.mem_map.mp h; exact mc_mc x
  · cases h
/-- _law_clean does not see a call of _platform -/
theorem clean_plat1 (l : List Nat) : cleanL (plat1 l) = cleanL l := by
  have hf := plat1_fixed l
  unfold cleanL
  have hs : (stripL (plat1 l)).map mc = stripL (plat1 l) := map_fixed fun c hc => hf c (mem_strip hc)
  rw [hs]
  obtain ⟨a, b, e, ha, hb⟩ := strip_split (plat1 l)
  have ta : tabsOnly a := fun c hc => by
    have h1 := ha c hc
    have h2 := mc_not32 (hf c (by rw [e]; exact List.mem_append_left _ (List.mem_append_left _ hc)))
    simpa [wh, h2] using h1
  have tb : ∀ c ∈ b, c = 45 ∨ c = 9 := fun c hc => by
    have h1 := hb c hc
    have h2 := mc_not32 (hf c (by rw [e]; exact List.mem_append_right _ hc))
    right; simpa [wh, h2] using h1
  have h1 : ends (((plat1 l).foldl pst []).reverse) = ends (((stripL (plat1 l)).foldl pst []).reverse) := by
    conv => lhs; rw [e, List.append_assoc]
    rw [fold_tabs a _ ta, fold_back _ b tb]
  rw [← h1]
  unfold plat1
  obtain ⟨d, e2, hd⟩ := rstrip_split (· == 45) (Hf false (Rm ((stripL l).map mc)))
  have h2 := fold_back (Tr (Hf false (Rm ((stripL l).map mc)))) d (fun c hc => .inl (by simpa using hd c hc))
  unfold Tr at h2 ⊢
  rw [← e2] at h2
  rw [← h2, pst_Hf _ false _ (fun e => absurd e Bool.false_ne_true), pst_rm]
end Mine
end
section
/-! part M3 -/
namespace Mine
/-! the squeezed text -/
theorem Hf_infix {u : List Nat} (hu : 45 ∉ u) : ∀ (l : List Nat) (b : Bool), u <+: Hf b l → u <:+: l
  | [], b, h => by
    have : u = [] := by simpa [Hf] using h
    rw [this]; exact List.nil_infix
  | c :: r, b, h => by
    unfold Hf at h
    split at h
    · rename_i hc
      split at h
      · exact (Hf_infix hu r true h).trans (List.suffix_cons c r).isInfix
      · cases u with
        | nil => exact List.nil_infix
        | cons x t =>
          obtain ⟨q, hq⟩ := h
          simp only [List.cons_append, List.cons.injEq] at hq
          exact absurd (by rw [hq.1]; exact .head _) hu
    · rename_i hc
      -- a prefix without a hyphen is a prefix of the text itself
      have pre : ∀ (r : List Nat) (t : List Nat), 45 ∉ t → t <+: Hf false r → t <+: r := by
        intro r
        induction r with
        | nil => intro t _ h; have : t = [] := by simpa [Hf] using h
                 rw [this]
                 exact List.nil_prefix
        | cons d q ih =>
          intro t ht h
          cases t with
          | nil => exact List.nil_prefix
          | cons x t =>
            unfold Hf at h
            split at h
            · rename_i hd
              rw [if_neg Bool.false_ne_true] at h
              obtain ⟨z, hz⟩ := h
              simp only [List.cons_append, List.cons.injEq] at hz
              exact absurd (by rw [hz.1]; exact .head _) ht
            · obtain ⟨z, hz⟩ := h
              simp only [List.cons_append, List.cons.injEq] at hz
              obtain ⟨z', hz'⟩ := ih t (fun m => ht (.tail _ m)) ⟨z, hz.2⟩
              exact ⟨z', by rw [hz.1, ← hz']; rfl⟩
      cases u with
      | nil => exact List.nil_infix
      | cons x t =>
        obtain ⟨z, hz⟩ := h
        simp only [List.cons_append, List.cons.injEq] at hz
        obtain ⟨z', hz'⟩ := pre r t (fun m => hu (.tail _ m)) ⟨z, hz.2⟩
        exact ⟨[], z', by rw [hz.1, ← hz']; rfl⟩
theorem Hf_infix' {u : List Nat} (hu : 45 ∉ u) : ∀ (l : List Nat) (b : Bool), u <:+: Hf b l → u <:+: l
  | [], b, h => by simpa [Hf] using h
  | c :: r, b, h => by
    by_cases hp : u <+: Hf b (c :: r)
    · exact Hf_infix hu _ b hp
    · have step : ∀ b', u <:+: Hf b' r → u <:+: c :: r := fun b' q => (Hf_infix' hu r b' q).trans (List.suffix_cons c r).isInfix
      unfold Hf at h hp
      split at h
      · rename_i hc
        rw [if_pos hc] at hp
        split at h
        · exact step _ h
        · rename_i hb
          rw [if_neg hb] at hp
          rcases List.infix_cons_iff.mp h with q | q
          · exact absurd q hp
          · exact step _ q
      · rename_i hc
        rw [if_neg hc] at hp
        rcases List.infix_cons_iff.mp h with q | q
        · exact absurd q hp
        · exact step _ q
theorem Hf_nodd : ∀ (l : List Nat) (b : Bool), ¬ dd <:+: Hf b l ∧ (b = true → (Hf b l).head? ≠ some 45)
  | [], b => by simp [Hf, dd]
  | c :: r, b => by
    have ihT := Hf_nodd r true
    have ihF := Hf_nodd r false
    unfold Hf
    by_cases hc : c = 45
    · rw [if_pos hc]
      cases b with
      | true => rw [if_pos rfl]; exact ⟨ihT.1, fun _ => ihT.2 rfl⟩
      | false =>
        rw [if_neg Bool.false_ne_true]
        refine ⟨fun h => ?_, fun e => absurd e Bool.false_ne_true⟩
        rcases List.infix_cons_iff.mp h with q | q
        · obtain ⟨z, hz⟩ := q
          have e : (Hf true r).head? = some 45 := by
            simp only [dd, List.cons_append, List.nil_append, List.cons.injEq, true_and] at hz
            rw [← hz]; rfl
          exact ihT.2 rfl e
        · exact ihT.1 q
    · rw [if_neg hc]
      refine ⟨fun h => ?_, fun _ e => hc (by simpa using e)⟩
      rcases List.infix_cons_iff.mp h with q | q
      · obtain ⟨z, hz⟩ := q
        simp only [dd, List.cons_append, List.nil_append, List.cons.injEq] at hz
        exact hc hz.1.symm
      · exact ihF.1 q
theorem Hf_same : ∀ (l : List Nat) (b : Bool), ¬ dd <:+: l → (b = true → l.head? ≠ some 45) → Hf b l = l
  | [], b, _, _ => rfl
  | c :: r, b, h, h1 => by
    have hr : ¬ dd <:+: r := fun q => h (q.trans (List.suffix_cons c r).isInfix)
    unfold Hf
    by_cases hc : c = 45
    · rw [if_pos hc]
      have hb : ¬ b = true := fun e => h1 e (by rw [hc]; rfl)
      rw [if_neg hb, Hf_same r true hr, hc]
      intro _ e
      cases r with
      | nil => cases e
      | cons x t =>
        simp only [List.head?_cons, Option.some.injEq] at e
        exact h ⟨[], t, by rw [hc, e]; rfl⟩
    · rw [if_neg hc, Hf_same r false hr (fun e => absurd e Bool.false_ne_true)]
theorem Hf_sq1 (l : List Nat) : ∀ b, Hf b (sq1 l) = Hf b l := by
  unfold sq1
  refine rep_ind dd (by decide) (P := fun l => ∀ b, Hf b (rep dd [45] 0 l) = Hf b l) (fun b => rfl) (fun r ih b => ?_) (fun a r hp ih b => ?_) l
  · rw [rep_hit dd [45] r (by decide)]
    show Hf b (45 :: rep dd [45] 0 r) = Hf b (45 :: 45 :: r)
    cases b <;> simp [Hf, ih]
  · rw [rep_miss dd [45] a r hp]
    unfold Hf
    split
    · rw [ih]
    · rw [ih]
theorem Hf_head (l : List Nat) : (Hf false l).head? = l.head? := by
  cases l with
  | nil => rfl
  | cons c r =>
    unfold Hf
    by_cases hc : c = 45
    · rw [if_pos hc, if_neg Bool.false_ne_true, hc]; rfl
    · rw [if_neg hc]; rfl
theorem Hf_snoc (c : Nat) (hc : c ≠ 45) : ∀ (l : List Nat) (b : Bool), Hf b (l ++ [c]) = Hf b l ++ [c]
  | [], b => by simp [Hf, hc]
  | a :: r, b => by
    rw [List.cons_append]
    unfold Hf
    split
    · split
      · exact Hf_snoc c hc r true
      · rw [Hf_snoc c hc r true]; rfl
    · rw [Hf_snoc c hc r false]; rfl
theorem Hf_snoc45 : ∀ (l : List Nat), (Hf false (l ++ [45])).getLast? = some 45
  | l => by
    have key : ∀ (l : List Nat) (b : Bool), (Hf b (l ++ [45])).getLast? = some 45 ∨ (b = true ∧ Hf b (l ++ [45]) = []) := by
      intro l
      induction l with
      | nil => intro b; cases b <;> simp [Hf]
      | cons a r ih =>
        intro b
        rw [List.cons_append]
        unfold Hf
        split
        · split
          · rename_i hb; rcases ih true with h | h
            · exact .inl h
            · exact .inr ⟨hb, h.2⟩
          · rcases ih true with h | h
            · left; rw [List.getLast?_cons, h]; rfl
            · left; rw [h.2]; rfl
        · rcases ih false with h | h
          · left; rw [List.getLast?_cons, h]; rfl
          · exact absurd h.1 Bool.false_ne_true
    rcases key l false with h | h
    · exact h
    · exact absurd h.1 Bool.false_ne_true
/-! the weight -/
def wch (c : Nat) : Nat := if c = 117 ∨ c = 119 then 1 else if c = 9 then 2 else 0
def Wf : Bool → List Nat → Nat
  | _, [] => 0
  | b, c :: r => (if c = 45 then (if b then 0 else 2) else wch c) + Wf (c == 45) r
theorem Wf_cons (b : Bool) (c : Nat) (r : List Nat) : Wf b (c :: r) = (if c = 45 then (if b then 0 else 2) else wch c) + Wf (c == 45) r := rfl
theorem Wf_le : ∀ (l : List Nat) (b : Bool), Wf b l ≤ Wf false l
  | [], b => Nat.le_refl _
  | c :: r, b => by
    unfold Wf
    by_cases hc : c = 45
    · simp only [hc, if_true]; cases b <;> simp
    · simp only [hc, if_false]; exact Nat.le_refl _
theorem Wf_append : ∀ (x y : List Nat) (b : Bool), Wf b (x ++ y) = Wf b x + Wf (match x.getLast? with | some c => c == 45 | none => b) y
  | [], y, b => by simp [Wf]
  | c :: r, y, b => by
    rw [List.cons_append, Wf_cons, Wf_cons, Wf_append r y]
    have : (match (c :: r).getLast? with | some c => c == 45 | none => b) = (match r.getLast? with | some c => c == 45 | none => (c == 45)) := by
      rw [List.getLast?_cons]
      cases r.getLast? <;> rfl
    rw [this]; omega
theorem Wf_sub (x y : List Nat) : Wf false (x ++ y) ≤ Wf false x + Wf false y := by
  rw [Wf_append]; exact Nat.add_le_add_left (Wf_le _ _) _
theorem Wf_unk (b : Bool) (r : List Nat) : Wf b (unk ++ r) = 2 + Wf false r := by
  simp [unk, Wf, wch]; omega
theorem Wf_Rm (l : List Nat) : ∀ b, Wf b (Rm l) ≤ Wf b l ∧ (unk <:+: l → Wf b (Rm l) + 2 ≤ Wf b l) := by
  unfold Rm
  refine rep_ind unk (by decide) (P := fun l => ∀ b, Wf b (rep unk [] 0 l) ≤ Wf b l ∧ (unk <:+: l → Wf b (rep unk [] 0 l) + 2 ≤ Wf b l)) (fun b => ⟨Nat.le_refl _, fun h => ?_⟩) (fun r ih b => ?_) (fun a r hp ih b => ?_) l
  · simp [unk] at h
  · rw [rep_hit unk [] r (by decide), List.nil_append, Wf_unk]
    have h1 := (ih b).1
    have h2 := Wf_le r b
    exact ⟨by omega, fun _ => by omega⟩
  · rw [rep_miss unk [] a r hp]
    unfold Wf
    have h1 := ih (a == 45)
    refine ⟨Nat.add_le_add_left h1.1 _, fun h => ?_⟩
    rcases List.infix_cons_iff.mp h with q | q
    · exact absurd q hp
    · have := h1.2 q; omega
theorem Wf_Hf : ∀ (l : List Nat) (b : Bool), Wf b (Hf b l) = Wf b l
  | [], b => by simp [Hf, Wf]
  | c :: r, b => by
    unfold Hf
    by_cases hc : c = 45
    · subst hc
      rw [if_pos rfl]
      cases b with
      | true => rw [if_pos rfl, Wf_Hf r true]; simp [Wf]
      | false => rw [if_neg Bool.false_ne_true]; simp [Wf, Wf_Hf r true]
    · rw [if_neg hc]
      have : (c == 45) = false := by simpa using hc
      simp [Wf, hc, this, Wf_Hf r false]
theorem Wf_hyphens (a : List Nat) (h : ∀ c ∈ a, c = 45) (hn : a ≠ []) : Wf false a = 2 := by
  cases a with
  | nil => exact absurd rfl hn
  | cons c r =>
    have hc := h c (.head _)
    subst hc
    have : ∀ r : List Nat, (∀ c ∈ r, c = 45) → Wf true r = 0 := by
      intro r
      induction r with
      | nil => intro _; rfl
      | cons d q ih => intro hd; have := hd d (.head _); subst this; simp [Wf, ih fun c hc => hd c (.tail _ hc)]
    simp [Wf, this r fun c hc => h c (.tail _ hc)]
theorem Wf_Tr (q : List Nat) : Wf false (Tr q) ≤ Wf false q ∧ (Tr q ≠ q → Wf false (Tr q) + 2 ≤ Wf false q) := by
  obtain ⟨a, e, h⟩ := rstrip_split (· == 45) q
  have ha : ∀ c ∈ a, c = 45 := fun c hc => by simpa using h c hc
  have key : Wf false q = Wf false (Tr q) + Wf (match (Tr q).getLast? with | some c => c == 45 | none => false) a := by
    conv => lhs; rw [e]
    exact Wf_append _ _ _
  have hl : (match (Tr q).getLast? with | some c => c == 45 | none => false) = false := by
    cases hq : (Tr q).getLast? with
    | none => rfl
    | some c => exact rstrip_last (· == 45) q c hq
  rw [hl] at key
  refine ⟨by omega, fun hne => ?_⟩
  have : a ≠ [] := fun h0 => hne (by unfold Tr; rw [h0, List.append_nil] at e; exact e.symm)
  rw [Wf_hyphens a ha this] at key; omega
/-- white signs at the ends, mapped -/
theorem Wf_white : ∀ (a : List Nat) (b : Bool) (x : List Nat), (∀ c ∈ a, wh c = true) → a ≠ [] → Wf b (a.map mc ++ x) = Wf false x + Wf false (a.map mc) ∧ (9 ∈ a → 2 ≤ Wf false (a.map mc))
  | [], _, _, _, h => absurd rfl h
  | [c], b, x, h, _ => by
    have hc := h c (.head _)
    have : c = 32 ∨ c = 9 := by simpa [wh] using hc
    rcases this with rfl | rfl
    · simp [mc, Wf, wch]
    · simp [mc, Wf, wch]; omega
  | c :: d :: r, b, x, h, _ => by
    have ih := Wf_white (d :: r) false x (fun c hc => h c (.tail _ hc)) (by simp)
    have hc := h c (.head _)
    have : c = 32 ∨ c = 9 := by simpa [wh] using hc
    rw [List.map_cons, List.cons_append]
    rcases this with rfl | rfl
    · have e : ∀ (b : Bool) (y : List Nat), Wf b (mc 32 :: y) = Wf false y := fun b y => by simp [mc, Wf, wch]
      rw [e, e]
      refine ⟨ih.1, fun h9 => ih.2 ?_⟩
      rcases List.mem_cons.mp h9 with q | q
      · cases q
      · exact q
    · have e : ∀ (b : Bool) (y : List Nat), Wf b (mc 9 :: y) = 2 + Wf false y := fun b y => by simp [mc, Wf, wch]
      rw [e, e, ih.1]
      exact ⟨by omega, fun _ => by omega⟩
theorem Wf_strip (t : List Nat) : Wf false ((stripL t).map mc) ≤ Wf false (t.map mc) := by
  obtain ⟨a, b, e, ha, hb⟩ := strip_split t
  conv => rhs; rw [e]
  rw [List.map_append, List.map_append]
  have h1 : Wf false ((stripL t).map mc) ≤ Wf false (a.map mc ++ (stripL t).map mc) := by
    cases a with
    | nil => exact Nat.le_refl _
    | cons c r => rw [(Wf_white (c :: r) false _ ha (by simp)).1]; omega
  rw [Wf_append (a.map mc ++ (stripL t).map mc)]; omega
theorem mc_9 {c : Nat} (h : mc c = 9) : c = 9 := by
  unfold mc at h
  by_cases h1 : c = 32
  · simp [h1] at h
  · by_cases h2 : c = 47 ∨ c = 92 ∨ c = 58 ∨ c = 59 ∨ c = 34 ∨ c = 40 ∨ c = 41
    · simp [h1, h2] at h
    · simpa [h1, h2] using h
/-- a call makes a text normal or lighter by two -/
theorem plat1_step (t : List Nat) : Nm (plat1 t) ∨ Wf false ((plat1 t).map mc) + 2 ≤ Wf false (t.map mc) := by
  have hfix := plat1_fixed t
  rw [map_fixed hfix]
  have hT := Wf_Tr (Hf false (Rm ((stripL t).map mc)))
  have hH := Wf_Hf (Rm ((stripL t).map mc)) false
  have hR := Wf_Rm ((stripL t).map mc) false
  have hS := Wf_strip t
  by_cases h1 : Tr (Hf false (Rm ((stripL t).map mc))) = Hf false (Rm ((stripL t).map mc))
  · by_cases h2 : unk <:+: (stripL t).map mc
    · right; have := hR.2 h2; unfold plat1; have := hT.1; omega
    · left
      have hRm : Rm ((stripL t).map mc) = (stripL t).map mc := rep_same unk [] _ h2
      have e : plat1 t = Hf false ((stripL t).map mc) := by unfold plat1; rw [h1, hRm]
      refine ⟨hfix, ?_, ?_, ?_, ?_, ?_⟩
      · rw [e]; exact (Hf_nodd _ _).1
      · rw [e]; exact fun q => h2 (Hf_infix' (by decide) _ _ q)
      · rw [e, Hf_head, List.head?_map]
        intro q
        cases hh : (stripL t).head? with
        | none => rw [hh] at q; cases q
        | some c =>
          rw [hh] at q
          have hc : c = 9 := mc_9 (Option.some.inj q)
          have := strip_head t c hh
          rw [hc] at this; exact absurd this (by decide)
      · intro q
        have := rstrip_last (· == 45) _ 45 q
        simp at this
      · rw [e]
        intro q
        -- the last sign
        cases hl : (stripL t).getLast? with
        | none =>
          have : stripL t = [] := List.getLast?_eq_none_iff.mp hl
          rw [this] at q; simp [Hf] at q
        | some c =>
          obtain ⟨l', hl'⟩ := List.getLast?_eq_some_iff.mp hl
          rw [hl', List.map_append] at q
          by_cases hc : mc c = 45
          · have : (l'.map mc ++ [c].map mc) = l'.map mc ++ [45] := by simp [hc]
            rw [this, Hf_snoc45] at q; simp at q
          · have : (l'.map mc ++ [c].map mc) = l'.map mc ++ [mc c] := by simp
            rw [this, Hf_snoc _ hc, List.getLast?_append] at q
            simp at q
            have hc9 := mc_9 q
            have := strip_last t c hl
            rw [hc9] at this; exact absurd this (by decide)
  · right; have := hT.2 h1; have := hR.1; unfold plat1; omega
theorem Wf_zero : ∀ (l : List Nat) (b : Bool), b = false → Wf b l = 0 → ∀ c ∈ l, c ≠ 45 ∧ c ≠ 9 ∧ c ≠ 117
  | [], _, _, _ => by intro c hc; cases hc
  | a :: r, b, hb, h => by
    subst hb
    unfold Wf at h
    by_cases ha : a = 45
    · simp [ha] at h
    · simp only [ha, if_false] at h
      have h1 : wch a = 0 := by omega
      have e : (a == 45) = false := by simpa using ha
      rw [e] at h
      have ih := Wf_zero r false rfl (by omega)
      intro c hc
      rcases List.mem_cons.mp hc with rfl | hc
      · refine ⟨ha, ?_, ?_⟩
        · rintro rfl; simp [wch] at h1
        · rintro rfl; simp [wch] at h1
      · exact ih c hc
theorem plat1_light (t : List Nat) (h : Wf false ((plat1 t).map mc) = 0) : Nm (plat1 t) := by
  have hfix := plat1_fixed t
  rw [map_fixed hfix] at h
  have z := Wf_zero _ _ rfl h
  have mem : ∀ (u : List Nat) (c : Nat), c ∈ u → u <:+: plat1 t → c ∈ plat1 t := fun u c hc hi => hi.subset hc
  refine ⟨hfix, fun q => (z 45 (mem dd 45 (by decide) q)).1 rfl, fun q => (z 117 (mem unk 117 (by decide) q)).2.2 rfl, fun q => ?_, fun q => ?_, fun q => ?_⟩
  · exact (z 9 (List.mem_of_mem_head? q)).2.1 rfl
  · exact (z 45 (List.mem_of_getLast? q)).1 rfl
  · exact (z 9 (List.mem_of_getLast? q)).2.1 rfl
end Mine
end
section
/-! part M4 -/
namespace Mine
theorem Nm.wh_head {n : List Nat} (h : Nm n) (c : Nat) (e : n.head? = some c) : wh c = false := by
  have h1 := mc_not32 (h.fixed c (List.mem_of_mem_head? e))
  have h2 : c ≠ 9 := fun q => h.front (q ▸ e)
  simp [wh, h1, h2]
theorem Nm.wh_last {n : List Nat} (h : Nm n) (c : Nat) (e : n.getLast? = some c) : wh c = false := by
  have h1 := mc_not32 (h.fixed c (List.mem_of_getLast? e))
  have h2 : c ≠ 9 := fun q => h.back.2 (q ▸ e)
  simp [wh, h1, h2]
theorem Nm.strip {n : List Nat} (h : Nm n) : stripL n = n := by
  unfold stripL
  rw [lstrip_id wh n h.wh_head, rstrip_id wh n h.wh_last]
theorem Nm.tr {n : List Nat} (h : Nm n) : Tr n = n := rstrip_id _ n fun c e => by
  have : c ≠ 45 := fun q => h.back.1 (q ▸ e)
  simpa using this
theorem Nm.plat1 {n : List Nat} (h : Nm n) : plat1 n = n := by
  unfold Mine.plat1
  rw [h.strip, map_fixed h.fixed]
  unfold Rm
  rw [rep_same unk [] n h.nounk, Hf_same n false h.nodd (fun e => absurd e Bool.false_ne_true), h.tr]
theorem Nm.nil : Nm [] := ⟨by simp, by simp [dd], by simp [unk], by simp, by simp⟩
/-- the pile of a text that has neither -- nor unknown -/
theorem pile_same (n : List Nat) : ¬ dd <:+: n → ¬ unk <:+: n → n.foldl pst [] = n.reverse := by
  have key : ∀ (r : List Nat), ¬ dd <:+: r.reverse → ¬ unk <:+: r.reverse → r.reverse.foldl pst [] = r := by
    intro r
    induction r with
    | nil => intro _ _; rfl
    | cons c r ih =>
      intro h1 h2
      rw [List.reverse_cons] at h1 h2 ⊢
      have i1 : ¬ dd <:+: r.reverse := fun q => h1 (q.trans (List.prefix_append _ _).isInfix)
      have i2 : ¬ unk <:+: r.reverse := fun q => h2 (q.trans (List.prefix_append _ _).isInfix)
      rw [List.foldl_append, ih i1 i2, List.foldl_cons, List.foldl_nil]
      unfold pst
      have e1 : ¬ (c = 45 ∧ r.head? = some 45) := by
        rintro ⟨rfl, hr⟩
        cases r with
        | nil => cases hr
        | cons x t =>
          simp only [List.head?_cons, Option.some.injEq] at hr
          subst hr
          exact h1 ⟨t.reverse, [], by simp [dd]⟩
      simp only [if_neg e1]
      have e2 : ¬ ((c :: r).take 7 = unkr) := by
        intro q
        refine h2 ⟨((c :: r).drop 7).reverse, [], ?_⟩
        have := congrArg List.reverse (List.take_append_drop 7 (c :: r))
        rw [List.reverse_append, q, List.reverse_cons] at this
        rw [List.append_nil]
        have u : unkr.reverse = unk := rfl
        rw [u] at this; exact this
      rw [if_neg e2]
  intro h1 h2
  have := key n.reverse (by rwa [List.reverse_reverse]) (by rwa [List.reverse_reverse])
  rwa [List.reverse_reverse] at this
theorem Nm.clean {n : List Nat} (h : Nm n) : cleanL n = n := by
  unfold cleanL
  rw [h.strip, map_fixed h.fixed, pile_same n h.nodd h.nounk, List.reverse_reverse]
  unfold ends
  rw [lstrip_id _ n fun c e => by
    have : c ≠ 9 := fun q => h.front (q ▸ e)
    simpa using this]
  exact rstrip_id _ n fun c e => by
    have h1 : c ≠ 45 := fun q => h.back.1 (q ▸ e)
    have h2 : c ≠ 9 := fun q => h.back.2 (q ▸ e)
    simp [h1, h2]
def iter (k : Nat) (t : List Nat) : List Nat := match k with | 0 => t | k + 1 => iter k (plat1 t)
theorem iter_nm : ∀ (k : Nat) (t : List Nat), Nm t → iter k t = t
  | 0, _, _ => rfl
  | k + 1, t, h => by unfold iter; rw [h.plat1, iter_nm k t h]
theorem iter_normal : ∀ (k : Nat) (t : List Nat), Wf false (t.map mc) ≤ 2 * k + 2 → Nm (iter (k + 1) t)
  | 0, t, h => by
    show Nm (plat1 t)
    rcases plat1_step t with q | q
    · exact q
    · exact plat1_light t (by omega)
  | k + 1, t, h => by
    show Nm (iter (k + 1) (plat1 t))
    rcases plat1_step t with q | q
    · rw [iter_nm _ _ q]; exact q
    · exact iter_normal k (plat1 t) (by omega)
theorem iter_clean : ∀ (k : Nat) (t : List Nat), cleanL (iter k t) = cleanL t
  | 0, _ => rfl
  | k + 1, t => by unfold iter; rw [iter_clean k, clean_plat1]
/-- five calls make the normal form -/
theorem five (t : List Nat) (h : Wf false (t.map mc) ≤ 10) : iter 5 t = cleanL t ∧ Nm (iter 5 t) := by
  have n := iter_normal 4 t (by omega)
  exact ⟨by rw [← iter_clean 5 t, n.clean], n⟩
/-! names joined -/
def op (a b : List Nat) : List Nat := if a ≠ [] ∧ b ≠ [] ∧ b.head? ≠ some 45 then a ++ 45 :: b else a ++ b
def jn (l : List (List Nat)) : List Nat := l.foldl op []
theorem op_nil_left (b : List Nat) : op [] b = b := by simp [op]
theorem op_nil_right (a : List Nat) : op a [] = a := by simp [op]
theorem op_ne (a b : List Nat) (h : a ≠ []) : op a b ≠ [] := by
  unfold op; split <;> simp [h]
theorem op_head (a b : List Nat) (h : a ≠ []) : (op a b).head? = a.head? := by
  cases a with
  | nil => exact absurd rfl h
  | cons x r => unfold op; split <;> rfl
theorem op_some (a b : List Nat) (ha : a ≠ []) (hb : b ≠ []) : op a b = if b.head? ≠ some 45 then a ++ 45 :: b else a ++ b := by
  unfold op
  by_cases h : b.head? = some 45
  · rw [if_neg (by simp [h]), if_neg (by simp [h])]
  · rw [if_pos ⟨ha, hb, h⟩, if_pos h]
theorem op_assoc (a b c : List Nat) : op (op a b) c = op a (op b c) := by
  by_cases ha : a = []
  · rw [ha, op_nil_left, op_nil_left]
  · by_cases hb : b = []
    · rw [hb, op_nil_right, op_nil_left]
    · by_cases hc : c = []
      · rw [hc, op_nil_right, op_nil_right]
      · have h1 := op_ne a b ha
        have h2 := op_ne b c hb
        have e1 := op_some a (op b c) ha h2
        rw [op_head b c hb] at e1
        have e2 := op_some (op a b) c h1 hc
        have e3 := op_some a b ha hb
        have e4 := op_some b c hb hc
        rw [e1, e2, e3, e4]
        split <;> split <;> simp
theorem jn_fold : ∀ (l : List (List Nat)) (a : List Nat), l.foldl op a = op a (jn l)
  | [], a => by simp [jn, op_nil_right]
  | b :: r, a => by
    unfold jn
    rw [List.foldl_cons, List.foldl_cons, op_nil_left, jn_fold r, jn_fold r b, op_assoc]
theorem jn_cons (a : List Nat) (r : List (List Nat)) : jn (a :: r) = op a (jn r) := by
  show (a :: r).foldl op [] = _
  rw [List.foldl_cons, op_nil_left, jn_fold]
theorem infix_over {u : List Nat} (hu : 45 ∉ u) : ∀ (y z : List Nat), u <:+: y ++ 45 :: z → u <:+: y ∨ u <:+: z := by
  intro y z h
  cases u with
  | nil => exact .inl List.nil_infix
  | cons x t =>
  induction y with
  | nil =>
    rcases List.infix_cons_iff.mp h with q | q
    · obtain ⟨w, hw⟩ := q
      simp only [List.cons_append, List.cons.injEq] at hw
      exact absurd (by rw [hw.1]; exact .head _) hu
    · exact .inr q
  | cons c r ih =>
    rw [List.cons_append] at h
    rcases List.infix_cons_iff.mp h with q | q
    · left
      obtain ⟨w, hw⟩ := q
      -- u is a prefix of c :: r ++ 45 :: z without a hyphen
      have pre : ∀ (s v : List Nat), 45 ∉ v → (∃ w, v ++ w = s ++ 45 :: z) → v <+: s := by
        intro s
        induction s with
        | nil =>
          rintro v hv ⟨w, hw⟩
          cases v with
          | nil => exact List.nil_prefix
          | cons a v => simp only [List.cons_append, List.nil_append, List.cons.injEq] at hw; exact absurd (by rw [hw.1]; exact .head _) hv
        | cons b s ih =>
          rintro v hv ⟨w, hw⟩
          cases v with
          | nil => exact List.nil_prefix
          | cons a v =>
            simp only [List.cons_append, List.cons.injEq] at hw
            obtain ⟨w', hw'⟩ := ih v (fun m => hv (.tail _ m)) ⟨w, hw.2⟩
            exact ⟨w', by rw [hw.1, ← hw']; rfl⟩
      exact (pre (c :: r) (x :: t) hu ⟨w, hw⟩).isInfix
    · rcases ih q with q | q
      · exact .inl (q.trans (List.suffix_cons c r).isInfix)
      · exact .inr q
theorem dd_over : ∀ (a b : List Nat), ¬ dd <:+: a → ¬ dd <:+: b → a.getLast? ≠ some 45 → ¬ dd <:+: a ++ b
  | [], b, _, hb, _ => hb
  | c :: r, b, ha, hb, hl => by
    have ih := dd_over r b (fun q => ha (q.trans (List.suffix_cons c r).isInfix)) hb
    intro h
    rw [List.cons_append] at h
    rcases List.infix_cons_iff.mp h with q | q
    · obtain ⟨w, hw⟩ := q
      simp only [dd, List.cons_append, List.nil_append, List.cons.injEq] at hw
      cases r with
      | nil => exact hl (by rw [← hw.1]; rfl)
      | cons d t =>
        simp only [List.cons_append, List.cons.injEq] at hw
        exact ha ⟨[], t, by rw [← hw.1, ← hw.2.1]; rfl⟩
    · cases r with
      | nil => exact hb q
      | cons d t => exact ih (by rw [List.getLast?_cons_cons] at hl; exact hl) q
theorem unk_over (a b : List Nat) (ha : ¬ unk <:+: a) (hb : ¬ unk <:+: b) (h : b.head? = some 45) : ¬ unk <:+: a ++ b := by
  cases b with
  | nil => cases h
  | cons x r =>
    simp only [List.head?_cons, Option.some.injEq] at h
    subst h
    intro q
    rcases infix_over (by decide) a r q with q | q
    · exact ha q
    · exact hb (q.trans (List.suffix_cons _ r).isInfix)
theorem Nm.op {a b : List Nat} (ha : Nm a) (hb : Nm b) : Nm (op a b) := by
  by_cases h1 : a = []
  · rw [h1, op_nil_left]; exact hb
  · by_cases h2 : b = []
    · rw [h2, op_nil_right]; exact ha
    · obtain ⟨c, hc⟩ : ∃ c, b.getLast? = some c := by
        cases q : b.getLast? with
        | none => exact absurd (List.getLast?_eq_none_iff.mp q) h2
        | some c => exact ⟨c, rfl⟩
      obtain ⟨d, hd⟩ : ∃ d, a.head? = some d := by
        cases a with
        | nil => exact absurd rfl h1
        | cons d r => exact ⟨d, rfl⟩
      unfold Mine.op
      by_cases h3 : b.head? = some 45
      · rw [if_neg (by simp [h3])]
        refine ⟨fun x hx => ?_, dd_over a b ha.nodd hb.nodd ha.back.1, unk_over a b ha.nounk hb.nounk h3, ?_, ?_⟩
        · rcases List.mem_append.mp hx with q | q
          · exact ha.fixed x q
          · exact hb.fixed x q
        · rw [List.head?_append, hd]; have := ha.front; rw [hd] at this; exact this
        · rw [List.getLast?_append, hc]; have := hb.back; rw [hc] at this; exact this
      · rw [if_pos ⟨h1, h2, h3⟩]
        have nb : ¬ dd <:+: 45 :: b := by
          intro q
          rcases List.infix_cons_iff.mp q with q | q
          · obtain ⟨w, hw⟩ := q
            simp only [dd, List.cons_append, List.nil_append, List.cons.injEq, true_and] at hw
            exact h3 (by rw [← hw]; rfl)
          · exact hb.nodd q
        refine ⟨fun x hx => ?_, dd_over a (45 :: b) ha.nodd nb ha.back.1, fun q => ?_, ?_, ?_⟩
        · rcases List.mem_append.mp hx with q | q
          · exact ha.fixed x q
          · rcases List.mem_cons.mp q with rfl | q
            · decide
            · exact hb.fixed x q
        · rcases infix_over (by decide) a b q with q | q
          · exact ha.nounk q
          · exact hb.nounk q
        · rw [List.head?_append, hd]; have := ha.front; rw [hd] at this; exact this
        · rw [List.getLast?_append, List.getLast?_cons, hc]; have := hb.back; rw [hc] at this; exact this
theorem Nm.jn : ∀ {l : List (List Nat)}, (∀ n ∈ l, Nm n) → Nm (jn l)
  | [], _ => Nm.nil
  | a :: r, h => by rw [jn_cons]; exact (h a (.head _)).op (Nm.jn fun n hn => h n (.tail _ hn))
/-! _platform of several texts -/
def inter : List (List Nat) → List Nat
  | [] => []
  | [x] => x
  | x :: y :: r => x ++ 45 :: inter (y :: r)
def platL (xs : List (List Nat)) : List Nat := Tr (Hf false (Rm ((inter ((xs.filter (fun x => !x.isEmpty)).map stripL)).map mc)))
theorem platL_one (x : List Nat) : platL [x] = plat1 x := by
  unfold platL plat1
  cases x with
  | nil => rfl
  | cons a r => rfl
theorem Hf_cons (b : Bool) (c : Nat) (r : List Nat) : Hf b (c :: r) = if c = 45 then (if b then Hf true r else 45 :: Hf true r) else c :: Hf false r := rfl
theorem Hf_append (b : List Nat) : ∀ (a : List Nat) (f : Bool), a ≠ [] → a.getLast? ≠ some 45 → Hf f (a ++ 45 :: b) = Hf f a ++ 45 :: Hf true b
  | [], _, h, _ => absurd rfl h
  | [c], f, _, h => by
    have hc : c ≠ 45 := fun e => h (by rw [e]; rfl)
    simp [Hf, hc]
  | c :: d :: r, f, _, h => by
    have ih : ∀ g, Hf g ((d :: r) ++ 45 :: b) = Hf g (d :: r) ++ 45 :: Hf true b := fun g => Hf_append b (d :: r) g (by simp) (by rw [List.getLast?_cons_cons] at h; exact h)
    rw [List.cons_append, Hf_cons, Hf_cons]
    split
    · split
      · exact ih true
      · rw [ih true]; rfl
    · rw [ih false]; rfl
theorem Hf_true (l : List Nat) : Hf true l = if l.head? = some 45 then (Hf false l).tail else Hf false l := by
  cases l with
  | nil => rfl
  | cons c r =>
    by_cases hc : c = 45
    · subst hc; simp [Hf]
    · simp [Hf, hc]
theorem inter_ne (x : List Nat) (r : List (List Nat)) (h : x ≠ []) : inter (x :: r) ≠ [] := by
  cases r with
  | nil => exact h
  | cons y r => show x ++ 45 :: inter (y :: r) ≠ []; simp
theorem Hf_inter : ∀ (l : List (List Nat)), (∀ n ∈ l, Nm n ∧ n ≠ []) → Hf false (inter l) = jn l ∧ ¬ unk <:+: inter l ∧ (∀ c ∈ inter l, mc c = c)
  | [], _ => by simp [inter, Hf, jn, unk]
  | [x], h => by
    have hx := (h x (.head _)).1
    refine ⟨?_, hx.nounk, hx.fixed⟩
    show Hf false x = _
    rw [Hf_same x false hx.nodd (fun e => absurd e Bool.false_ne_true), jn_cons]
    show x = op x []
    rw [op_nil_right]
  | x :: y :: r, h => by
    obtain ⟨i1, i2, i3⟩ := Hf_inter (y :: r) fun n hn => h n (.tail _ hn)
    have hx := h x (.head _)
    have hj : Nm (jn (y :: r)) := Nm.jn fun n hn => (h n (.tail _ hn)).1
    have hjn : jn (y :: r) ≠ [] := by rw [jn_cons]; exact op_ne _ _ (h y (.tail _ (.head _))).2
    refine ⟨?_, fun q => ?_, fun c hc => ?_⟩
    · show Hf false (x ++ 45 :: inter (y :: r)) = _
      rw [Hf_append _ x false hx.2 hx.1.back.1, Hf_same x false hx.1.nodd (fun e => absurd e Bool.false_ne_true), Hf_true, i1, jn_cons x]
      have hh : (inter (y :: r)).head? = (jn (y :: r)).head? := by rw [← i1, Hf_head]
      rw [hh]
      unfold op
      by_cases h3 : (jn (y :: r)).head? = some 45
      · rw [if_pos h3, if_neg (by simp [h3])]
        cases q : jn (y :: r) with
        | nil => exact absurd q hjn
        | cons a t => rw [q] at h3; simp only [List.head?_cons, Option.some.injEq] at h3; rw [h3]; rfl
      · rw [if_neg h3, if_pos ⟨hx.2, hjn, h3⟩]
    · rcases infix_over (by decide) x _ q with q | q
      · exact hx.1.nounk q
      · exact i2 q
    · rcases List.mem_append.mp hc with q | q
      · exact hx.1.fixed c q
      · rcases List.mem_cons.mp q with rfl | q
        · decide
        · exact i3 c q
theorem jn_filter : ∀ (l : List (List Nat)), jn (l.filter fun x => !x.isEmpty) = jn l
  | [] => rfl
  | a :: r => by
    cases a with
    | nil => rw [jn_cons, op_nil_left, ← jn_filter r]; rfl
    | cons c t =>
      have : ((c :: t) :: r).filter (fun x => !x.isEmpty) = (c :: t) :: r.filter fun x => !x.isEmpty := rfl
      rw [this, jn_cons, jn_cons, jn_filter r]
/-- one call with normal names -/
theorem platL_nm (l : List (List Nat)) (h : ∀ n ∈ l, Nm n) : platL l = jn l := by
  have hf : ∀ n ∈ l.filter (fun x => !x.isEmpty), Nm n ∧ n ≠ [] := fun n hn => by
    obtain ⟨h1, h2⟩ := List.mem_filter.mp hn
    exact ⟨h n h1, by simpa using h2⟩
  have hs : (l.filter (fun x => !x.isEmpty)).map stripL = l.filter fun x => !x.isEmpty := by
    conv => rhs; rw [← List.map_id (l.filter _)]
    exact List.map_congr_left fun n hn => (hf n hn).1.strip
  obtain ⟨i1, i2, i3⟩ := Hf_inter _ hf
  unfold platL
  rw [hs, map_fixed i3]
  unfold Rm
  rw [rep_same unk [] _ i2, i1, jn_filter]
  exact (Nm.jn h).tr
theorem platL_two {a b : List Nat} (ha : Nm a) (hb : Nm b) : platL [a, b] = op a b := by
  rw [platL_nm _ (by intro n hn; simp at hn; rcases hn with rfl | rfl <;> assumption), jn_cons, jn_cons]
  show op a (op b []) = _
  rw [op_nil_right]
end Mine
end
section
/-! part P1 -/
open PySem PySem.W PyProof.Rows PySem.Spec
set_option maxRecDepth 100000
namespace Mine
section
variable {prog : Program} {w : World} {A : Around} {E : Value → Shared → Prop} {s : Shared} {cn : Str} {cs : Scope} {L a : Addr} {cd : Value} {h₀ : Heap} {m : Str → Option Value} {news : List (Addr × Obj)}
abbrev put (m : Str → Option Value) (x : Str) (v : Value) : Str → Option Value := fun y => if y = x then some v else m y
theorem put_same (m : Str → Option Value) (x : Str) (v : Value) : put m x v x = some v := if_pos rfl
theorem put_other (m : Str → Option Value) {x y : Str} (v : Value) (h : y ≠ x) : put m x v y = m y := if_neg h
/-- a method of a name or a literal, its dot on the call's line -/
theorem method_line {M : Model} {env : Env} {o : Expr} {name : Str} {apos pos : Pos} {args : List Expr} {Q : Value → Shared → Prop}
    (ho : ∀ nm whole, attributeBase o nm env whole = whole) (hp : (apos.endLine == pos.line) = true) (hf : methodCallForm args.length (backTo pos (starEach args env)) [] = true)
    (h : wpAny M A (eval o env) (fun ov s₁ => wpAny M A (getMethod ov name (do return (← importBound o env).getD true)) (fun fx s₂ => wpAny M A (callWith pos fx.1 fx.2 (backTo pos (starEach args env)) []) Q E s₂) E s₁) E s) :
    wpAny M A (eval (.Call (.Attribute o name apos) args [] pos) env) Q E s := by
  refine MethodCall_ (pl := do return (← importBound o env).getD true) h ?_
  show (do let ov ← attributeBase o name env (eval o env); standAt apos.atName; methodCall o name apos pos env ov (args.length + 0) (backTo pos (starEach args env)) []) = _
  rw [ho]
  unfold methodCall methodCallPos calleeOf
  rw [Nat.add_zero, hf, hp]
  rfl
/-- v = v.replace(y, z) and u = v.replace(y, z) -/
theorem repl_stmt {v u x y z : Str} {t : Tok} {p1 p2 p3 p4 p5 p6 p7 : Pos} {k4 k5 : Nat} {Q : Flow → Shared → Prop}
    (F : Fr h₀ L s.heap m) (N : News h₀ L s.heap news) (hm : m v = some (.str x t)) (hx : x.length ≤ 1048576) (hz : z.length ≤ 14) (hyz : (y == z) = false) (ht : 0 < s.toks)
    (hk : cs.kind = .function) (hv : (envOf cn cs L a cd).kindOf v = some .local) (hu : (envOf cn cs L a cd).kindOf u = some .local) (hd : (v == ("__debug__" : Str)) = false) (hp : (p3.endLine == p6.line) = true)
    (h : ∀ t' h' tk, 0 < tk → Fr h₀ L h' (put m u (.str (Txt.replace x y z) t')) → News h₀ L h' news → Q .next { s with heap := h', toks := tk }) :
    wpAny (model prog w) A (exec (.Assign [.Name u p1] (.Call (.Attribute (.Name v p2) (Str.ofString "replace") p3) [.Constant (.str y) k4 p4, .Constant (.str z) k5 p5] [] p6) p7) (envOf cn cs L a cd)) Q E s := by
  refine wpAny_Assign_Name ?_
  refine method_line (fun _ _ => rfl) hp rfl ?_
  refine ld F hm ?_ hk hv hd
  refine GM.replace ?_
  refine callWith_method1 ?_
  refine spliced_more (Calls.Constant_str (spliced_more (Calls.Constant_str (spliced_none ?_))))
  refine SC.replaceW (by show s.toks ≠ 0; omega) (by show s.toks + 1 ≠ 0; omega) (by show s.toks ≠ s.toks + 1; omega) hyz hx hz (fun t' k => ?_)
  exact stN (s := { s with toks := k }) F N (fun h' F' N' => h t' h' (k + 1) (Nat.succ_pos _) F' N') hk hu
end
/-! cut texts -/
theorem slice_to_tl (x : Str) (k : Nat) (hk : 0 < k) : tl (Txt.slice x none (some (-(k : Int)))) = (tl x).take (x.length - k) := by
  rw [slice_to_neg (by omega)]
  have h := slice_closes_toL (x := x) (j := max 0 ((x.length : Int) + -(k : Int))) (by omega) (by omega)
  have e := beq_iff_eq.mp h
  rw [e]
  show ((tl x).drop 0).take _ = _
  rw [List.drop_zero]
  congr 1
  omega
theorem slice_from_tl (x : Str) (k : Nat) (hk : 0 < k) : tl (Txt.slice x (some (-(k : Int))) none) = (tl x).drop (x.length - k) := by
  rw [slice_from_neg (by omega), slice_from_eq (b := x.length) (by omega) (by omega) rfl]
  have e : (max 0 ((x.length : Int) + -(k : Int))).toNat = x.length - k := by omega
  have e2 : ((x.length : Int) - max 0 ((x.length : Int) + -(k : Int))).toNat = x.length - (x.length - k) := by omega
  rw [e, e2]
  show ((tl x).drop _).take _ = _
  rw [List.take_of_length_le]
  rw [List.length_drop, tl_length]; exact Nat.le_refl _
theorem item_last_tl (x : Str) (h : 0 < x.length) : tl (Txt.item x (-1)) = [(tl x).getLastD 0] := by
  show [(Txt.charAt x (-1)).getD 0] = _
  unfold Txt.charAt
  rw [StrLaws.seqIndex_neg (by omega) (by omega)]
  have e : ((-1 : Int) + x.length).toNat = x.length - 1 := by omega
  rw [e]
  show [(x.cps[x.length - 1]?).getD 0] = _
  have : x.cps[x.length - 1]? = (tl x).getLast? := by
    rw [List.getLast?_eq_getElem?, tl_length]; simp [tl]
  rw [this, List.getLastD_eq_getLast?]
section
variable {prog : Program} {w : World} {A : Around} {E : Value → Shared → Prop} {s : Shared} {cn : Str} {cs : Scope} {L a : Addr} {cd : Value} {h₀ : Heap} {m : Str → Option Value} {news : List (Addr × Obj)}
abbrev dash : Str := Str.ofString "-"
abbrev dashes : Str := Str.ofString "--"
theorem dash_tl : tl dash = [45] := by decide +kernel
theorem dashes_tl : tl dashes = dd := by decide +kernel
theorem sq1_tl (x : Str) : tl (Txt.replace x dashes dash) = sq1 (tl x) := by
  rw [replace_tl x dashes dash (by decide +kernel), dashes_tl, dash_tl]; rfl
theorem wpAny_Constant_bool {M : Model} {env : Env} {b : Bool} {k : Nat} {pos : Pos} {Q : Value → Shared → Prop} (h : Q (.bool b) s) : wpAny M A (eval (.Constant (.bool b) k pos) env) Q E s := fun _ _ _ => h
/-- while True: u = v.replace('--', '-'); if u == v: break; v = u -/
theorem squeeze_loop {v u x : Str} {t : Tok} {p1 p2 p3 p4 p5 p6 p7 q0 q1 q2 q3 q4 q5 q6 q7 q8 q9 : Pos} {k0 k4 k5 : Nat} {Q : Flow → Shared → Prop}
    (F : Fr h₀ L s.heap m) (N : News h₀ L s.heap news) (hm : m v = some (.str x t)) (hx : x.length ≤ 1048576) (ht : 0 < s.toks)
    (hk : cs.kind = .function) (hv : (envOf cn cs L a cd).kindOf v = some .local) (hu : (envOf cn cs L a cd).kindOf u = some .local) (hd : (v == ("__debug__" : Str)) = false) (hd' : (u == ("__debug__" : Str)) = false) (huv : u ≠ v) (hp : (p3.endLine == p6.line) = true)
    (h : ∀ y t' h' tk m', 0 < tk → Fr h₀ L h' m' → News h₀ L h' news → m' v = some (.str y t') → tl y = Hf false (tl x) → Q .next { s with heap := h', toks := tk }) :
    wpAny (model prog w) A (exec (.While (.Constant (.bool true) k0 q1) [.Assign [.Name u p1] (.Call (.Attribute (.Name v p2) (Str.ofString "replace") p3) [.Constant (.str dashes) k4 p4, .Constant (.str dash) k5 p5] [] p6) p7,
      .If (.Compare (.Name u q2) [.Eq] [.Name v q3] q4) [.Break q5] [] q6, .Assign [.Name v q7] (.Name u q8) q9] [] q0) (envOf cn cs L a cd)) Q E s := by
  refine wpAny_While ?_
  refine codeAny_whileLoop (fun n s' => ∃ h' tk m' t' y, s' = { s with heap := h', toks := tk } ∧ 0 < tk ∧ Fr h₀ L h' m' ∧ News h₀ L h' news ∧ m' v = some (.str y t') ∧ Hf false (tl y) = Hf false (tl x) ∧ y.length ≤ x.length ∧ n = y.length) ?_ x.length
    ⟨s.heap, s.toks, m, t, x, rfl, ht, F, N, hm, rfl, Nat.le_refl _, rfl⟩
  rintro n s' ⟨h', tk, m', t', y, rfl, htk, F', N', hm', hH, hle, rfl⟩
  refine wpAny_isTrue_value (wpAny_Constant_bool ?_)
  refine wpAny_truthy_bool ?_
  rw [if_pos rfl]
  refine wpAny_execs_cons ?_
  refine repl_stmt (s := { s with heap := h', toks := tk }) F' N' hm' (Nat.le_trans hle hx) (by decide +kernel) (by decide +kernel) htk hk hv hu hd hp fun t2 h2 tk2 htk2 F2 N2 => ?_
  refine wpAny_execs_cons (wpAny_If (wpAny_isTrue_Compare1 ?_))
  refine ld F2 (put_same _ _ _) ?_ hk hu hd'
  refine ld F2 ((put_other _ _ (Ne.symm huv)).trans hm') ?_ hk hv hd
  refine PyProof.Rows.eq_str (wpAny_truthy_bool ?_)
  cases hc : (Txt.replace y dashes dash == y)
  · rw [if_neg Bool.false_ne_true]
    refine wpAny_execs_nil ?_
    refine wpAny_execs_cons (wpAny_Assign_Name (ld F2 (put_same _ _ _) ?_ hk hu hd'))
    refine stN (s := { s with heap := h2, toks := tk2 }) F2 N2 (fun h3 F3 N3 => ?_) hk hv
    refine wpAny_execs_nil ?_
    have e := sq1_tl y
    have hlen : (sq1 (tl y)).length < (tl y).length := by
      have hs := rep_short dd [45] (by decide) (tl y)
      refine hs.2 (Classical.byContradiction fun hn => ?_)
      have : Txt.replace y dashes dash = y := tl_inj (e.trans (rep_same dd [45] _ hn))
      rw [this] at hc; simp at hc
    rw [← e, tl_length, tl_length] at hlen
    exact ⟨_, hlen, h3, _, _, _, _, rfl, Nat.succ_pos _, F3, N3, put_same _ _ _, by rw [e, Hf_sq1]; exact hH, by omega, rfl⟩
  · rw [if_pos rfl]
    refine wpAny_execs_cons (wpAny_Break ?_)
    have e : Txt.replace y dashes dash = y := beq_iff_eq.mp hc
    have e2 : sq1 (tl y) = tl y := by rw [← sq1_tl, e]
    have nod : ¬ dd <:+: tl y := (rep_fix dd [45] (by decide) (tl y)).mp e2
    refine h y t' h2 tk2 _ htk2 F2 N2 ((put_other _ _ (Ne.symm huv)).trans hm') ?_
    rw [← hH, Hf_same _ _ nod (fun e => absurd e Bool.false_ne_true)]
theorem tr_dropLast (l : List Nat) (h : l.getLast? = some 45) : Tr l.dropLast = Tr l := by
  obtain ⟨r, hr⟩ := List.getLast?_eq_some_iff.mp h
  rw [hr, List.dropLast_concat]
  exact (rstrip_snoc _ r 45 rfl).symm
/-- while v and v[-1] == '-': v = v[:-1] -/
theorem trail_loop {v x : Str} {t : Tok} {q1 q2 q3 q4 q5 q6 q7 q8 q9 r1 r2 r3 r4 r5 r6 r7 : Pos} {k1 k2 k3 : Nat} {Q : Flow → Shared → Prop}
    (F : Fr h₀ L s.heap m) (N : News h₀ L s.heap news) (hm : m v = some (.str x t)) (hx : x.length ≤ 1048576)
    (hk : cs.kind = .function) (hv : (envOf cn cs L a cd).kindOf v = some .local) (hd : (v == ("__debug__" : Str)) = false)
    (h : ∀ y t' h' tk m', Fr h₀ L h' m' → News h₀ L h' news → m' v = some (.str y t') → tl y = Tr (tl x) → Q .next { s with heap := h', toks := tk }) :
    wpAny (model prog w) A (exec (.While (.BoolOp .And [.Name v q1, .Compare (.Subscript (.Name v q2) (.UnaryOp .USub (.Constant (.int 1) k1 q3) q4) q5) [.Eq] [.Constant (.str dash) k2 q6] q7] q8)
      [.Assign [.Name v r1] (.Subscript (.Name v r2) (.Slice none (some (.UnaryOp .USub (.Constant (.int 1) k3 r3) r4)) none r5) r6) r7] [] q9) (envOf cn cs L a cd)) Q E s := by
  refine wpAny_While ?_
  refine codeAny_whileLoop (fun n s' => ∃ h' tk m' t' y, s' = { s with heap := h', toks := tk } ∧ Fr h₀ L h' m' ∧ News h₀ L h' news ∧ m' v = some (.str y t') ∧ Tr (tl y) = Tr (tl x) ∧ y.length ≤ x.length ∧ n = y.length) ?_ x.length
    ⟨s.heap, s.toks, m, t, x, rfl, F, N, hm, rfl, Nat.le_refl _, rfl⟩
  rintro n s' ⟨h', tk, m', t', y, rfl, F', N', hm', hT, hle, rfl⟩
  refine wpAny_isTrue_BoolOp (wpAny_allTrue_And_cons ?_)
  refine wpAny_isTrue_value (ld F' hm' ?_ hk hv hd)
  refine SBL.truthy (by omega) ?_
  by_cases h0 : y.length = 0
  · have e0 : ((y.length : Int) != 0) = false := by simp [h0]
    rw [e0, if_neg Bool.false_ne_true]
    refine wpAny_execs_nil ?_
    refine h y t' h' _ m' F' N' hm' ?_
    have : tl y = [] := List.eq_nil_of_length_eq_zero (by rw [tl_length]; exact h0)
    rw [← hT, this]; rfl
  · have e0 : ((y.length : Int) != 0) = true := by simp [h0]
    rw [e0, if_pos rfl]
    refine wpAny_allTrue_And_cons (wpAny_isTrue_Compare1 ?_)
    refine Subscript_ (ld F' hm' ?_ hk hv hd)
    refine UnaryOp_ (wpAny_Constant_int ?_)
    refine neg_int ?_
    refine item_str (by decide) (by omega) (by omega) (fun _ => ?_)
    refine Calls.Constant_str ?_
    refine PyProof.Rows.eq_str (wpAny_truthy_bool ?_)
    have hlast := item_last_tl y (by omega)
    have heq : (Txt.item y (-1) == dash) = ((tl y).getLastD 0 == 45) := by
      by_cases hc : (tl y).getLastD 0 = 45
      · have : Txt.item y (-1) = dash := tl_inj (by rw [hlast, hc, dash_tl])
        rw [this, hc]; simp
      · have : Txt.item y (-1) ≠ dash := fun q => hc (by rw [q, dash_tl] at hlast; simpa using hlast.symm)
        rw [beq_eq_false_iff_ne.mpr this, beq_eq_false_iff_ne.mpr hc]
    rw [heq]
    have hsome : ∃ c, (tl y).getLast? = some c := by
      cases q : (tl y).getLast? with
      | none => exact absurd (by rw [← tl_length, List.getLast?_eq_none_iff.mp q]; rfl) h0
      | some c => exact ⟨c, rfl⟩
    obtain ⟨c, hc⟩ := hsome
    have hg : (tl y).getLastD 0 = c := by rw [List.getLastD_eq_getLast?, hc]; rfl
    rw [hg]
    by_cases h45 : c = 45
    · subst h45
      rw [if_pos (by rfl)]
      refine wpAny_allTrue_And_nil ?_
      rw [if_pos rfl]
      refine wpAny_execs_cons (wpAny_Assign_Name (Subscript_ (ld F' hm' ?_ hk hv hd)))
      refine wpAny_Slice ?_
      refine wpAny_evalPart_none ?_
      refine wpAny_evalPart_some (UnaryOp_ (wpAny_Constant_int (neg_int ?_)))
      refine wpAny_evalPart_none ?_
      refine slice_strN_ns (s := ⟨h', _, _, _, _⟩) F' N' (fun h2 t2 k2 F2 N2 => ?_) rfl (fun _ => rfl) (by rw [sizeLine_eq]; omega)
      refine stN (s := ⟨h2, _, _, _, _⟩) F2 N2 (fun h3 F3 N3 => ?_) hk hv
      refine wpAny_execs_nil ?_
      have e := slice_to_tl y 1 (by omega)
      have e1 : (tl y).take (y.length - 1) = (tl y).dropLast := by rw [List.dropLast_eq_take, tl_length]
      rw [e1] at e
      refine ⟨(Txt.slice y none (some (-1))).length, ?_, h3, _, _, _, _, rfl, F3, N3, put_same _ _ _, ?_, ?_, rfl⟩
      · rw [← tl_length, ← tl_length]
        have := congrArg List.length e
        have h2 : (tl (Txt.slice y none (some (-1)))).length = (tl y).length - 1 := by rw [← List.length_dropLast]; exact this
        rw [h2, tl_length]; omega
      · have : tl (Txt.slice y none (some (-1))) = (tl y).dropLast := e
        rw [this, tr_dropLast _ hc, hT]
      · have := congrArg List.length e
        have h2 : (tl (Txt.slice y none (some (-1)))).length = (tl y).length - 1 := by rw [← List.length_dropLast]; exact this
        rw [tl_length, tl_length] at h2; omega
    · have : (c == 45) = false := by simpa using h45
      rw [this, if_neg Bool.false_ne_true]
      rw [if_neg Bool.false_ne_true]
      refine wpAny_execs_nil ?_
      refine h y t' h' _ m' F' N' hm' ?_
      rw [← hT]
      exact (rstrip_id _ _ fun d hd' => by rw [hc] at hd'; cases hd'; exact this).symm
end
end Mine
end
section
/-! part P2 -/
open PySem PySem.W PyProof.Rows PySem.Spec
set_option maxRecDepth 100000
namespace Mine
theorem owner_filter : Manifest.owners.lookup (String.ofList ['r', 'e', 't', 'l', 'i', 'f'].reverse) = some Manifest.sig_filter := by kernel_rfl
theorem slot_filter_next : Slot "filter" "__next__" "filter.__next__" :=
  .of (owner := "filter") (n := "__next__") (by rw [typeLookup_type, builtinLookup_eq_fast]; kernel_rfl) (by decide +kernel) (by decide +kernel) (by decide +kernel)
    (by first | exact .inl (by decide +kernel) | exact .inr (by decide +kernel)) (by rw [isSubtype_type]; kernel_rfl)
theorem entry_filter_next : entryFor table "filter.__next__" = some Builtin.«filter.__next__» := entryFor_of_tree (by kernel_rfl)
theorem args_filter_next (a : Value) : argsOk "filter.__next__" ⟨[a], []⟩ := by
  unfold argsOk; rw [signature?_of (id := "filter.__next__") (n := ['_', '_', 't', 'x', 'e', 'n', '_', '_']) (o := ['r', 'e', 't', 'l', 'i', 'f']) (by kernel_rfl) owner_filter]; kernel_rfl
theorem slot_filter_iter : Slot "filter" "__iter__" "filter.__iter__" :=
  .of (owner := "filter") (n := "__iter__") (by rw [typeLookup_type, builtinLookup_eq_fast]; kernel_rfl) (by decide +kernel) (by decide +kernel) (by decide +kernel)
    (by first | exact .inl (by decide +kernel) | exact .inr (by decide +kernel)) (by rw [isSubtype_type]; kernel_rfl)
theorem args_filter_iter (a : Value) : argsOk "filter.__iter__" ⟨[a], []⟩ := by
  unfold argsOk; rw [signature?_of (id := "filter.__iter__") (n := ['_', '_', 'r', 'e', 't', 'i', '_', '_']) (o := ['r', 'e', 't', 'l', 'i', 'f']) (by kernel_rfl) owner_filter]; kernel_rfl
theorem entry_filter_iter : entryFor table "filter.__iter__" = some Builtin.«dict_keyiterator.__iter__» :=
  entryFor_alias (id' := "dict_keyiterator.__iter__") (by kernel_rfl) (by first | rfl | decide +kernel | (unfold String.splitOn; simp +decide [String.splitOnAux])) (by decide +kernel) (by kernel_rfl)
theorem slot_filter_init : Slot "filter" "__init__" "object.__init__" :=
  .of (owner := "object") (n := "__init__") (by rw [typeLookup_type, builtinLookup_eq_fast]; kernel_rfl) (by decide +kernel) (by decide +kernel) (by decide +kernel)
    (by first | exact .inl (by decide +kernel) | exact .inr (by decide +kernel)) (by rw [isSubtype_type]; kernel_rfl)
theorem mro_filter : mroOf (.type "filter") = pure [.type "filter", .type "object"] := by rw [mroOf_type]; kernel_rfl
theorem lookup_filter_new : typeLookup (.type "filter") "__new__" = pure (some (.builtin "filter.__new__")) := by rw [typeLookup_type, builtinLookup_eq_fast]; kernel_rfl
theorem called_filter : TypeCalled "filter" "filter.__new__" "object.__init__" :=
  ⟨by decide +kernel, by decide +kernel, ⟨_, _, mro_filter⟩, madeBy_type mro_filter lookup_filter_new (by decide +kernel), by decide +kernel, by rw [isSubtype_type]; kernel_rfl, slot_filter_init⟩
theorem typeCall_filter (a b : Value) : checkTypeCall "filter" ⟨[a, b], []⟩ = pure () := by kernel_rfl
theorem newCall_filter (a b : Value) : checkBuiltinCall "filter.__new__" ⟨[.type "filter", a, b], []⟩ = pure () := by kernel_rfl
theorem entry_filter_new : entryFor table "filter.__new__" = some Builtin.«filter.__new__» := entryFor_of_tree (by kernel_rfl)
theorem sub_filter : isSubtype (.type "filter") (.type "filter") = pure true := by rw [isSubtype_type]; kernel_rfl
theorem args_object_init_3 (a b c : Value) : argsOk "object.__init__" ⟨[a, b, c], []⟩ := by
  unfold argsOk; rw [signature?_of (id := "object.__init__") (n := ['_', '_', 't', 'i', 'n', 'i', '_', '_']) (o := ['t', 'c', 'e', 'j', 'b', 'o']) (by kernel_rfl) F.owner_object]; kernel_rfl
abbrev filterObj (f : Value) (J : Addr) : Obj := { cls := .type "filter", data := .fields #[f, .ref J] }
abbrev tupIter (D : Addr) (i : Nat) : Obj := { cls := .type "tuple_iterator", data := .fields #[.ref D, .int i 0] }
theorem meets_filter_new (f : Value) (D : Addr) (items : Array Value) :
    Meets (Builtin.«filter.__new__» ⟨[.type "filter", f, .ref D], []⟩) (fun _ R s => s.heap.IsTuple D items ∧
      R (.ok (.ret (.ref (s.heap.push (tupIter D 0)).objs.size))) { s with heap := (s.heap.push (tupIter D 0)).push (filterObj f s.heap.objs.size) }) :=
  .of_wp fun prog w A R s h => by
    obtain ⟨hD, h⟩ := h
    have hsub := sub_filter
    wp_walk using wpAny_pyIter_tuple hD
    exact ⟨_, rfl, h⟩
end Mine
end
section
/-! part P3 -/
open PySem PySem.W PyProof.Rows PySem.Spec
set_option maxRecDepth 100000
namespace Mine
section
variable {prog : Program} {w : World} {A : Around} {E : Value → Shared → Prop} {s : Shared}
theorem call_filter {f : Value} {D : Addr} {items : Array Value} {Q : Value → Shared → Prop} (hD : s.heap.IsTuple D items)
    (h : Q (.ref (s.heap.objs.size + 1)) { s with heap := (s.heap.push (tupIter D 0)).push (filterObj f s.heap.objs.size) }) : wpAny (model prog w) A (call (.type "filter") [f, .ref D]) Q E s := by
  refine callType_new called_filter (by decide) (typeCall_filter _ _) (newCall_filter _ _) (fun obj => args_object_init_3 obj _ _) entry_filter_new (meets_filter_new f D items) ⟨hD, ?_⟩
  have hz : (s.heap.push (tupIter D 0)).objs.size = s.heap.objs.size + 1 := Heap.size_push ..
  refine ⟨⟨_, Heap.get?_push_size _ rfl, rfl⟩, ?_⟩
  rw [hz]; exact h
theorem pyIter_filter {I J : Addr} {f : Value} {Q : Value → Shared → Prop} (hI : s.heap.get? I = some (filterObj f J)) (h : Q (.ref I) s) : wpAny (model prog w) A (pyIter (.ref I)) Q E s := by
  have hT : s.TypeIs (.ref I) "filter" := ⟨_, hI, rfl⟩
  refine wpAny_pyIter_slot hT slot_filter_iter (wpAny_call_entry slot_filter_iter hT entry_filter_iter ?_ (args_filter_iter _))
  show wpAny _ _ (ret (.ref I)) _ _ s
  exact wpAny_pure ⟨_, rfl, "filter", _, hT, slot_filter_next.lookup, h⟩
/-- the next of a tuple's iterator, called as the slot -/
theorem special_tuple_item {J D : Addr} {i : Nat} {items : Array Value} {x : Value} {Q : Option Value → Shared → Prop} (hJ : s.heap.IsTupleIter J D i) (hD : s.heap.IsTuple D items) (hx : items[i]? = some x)
    (hQ : ∀ h', h'.IsTupleIter J D (i + 1) → Heap.SameBut J s.heap h' → Q (some x) { s with heap := h' }) : wpAny (model prog w) A (callSpecial? (.ref J) (Str.ofString "__next__")) Q E s := by
  obtain ⟨o, ho, hc, hd⟩ := id hJ
  obtain ⟨ol, hol, _, nl, hdl⟩ := hD
  refine wpAny_callSpecial?_slot (name := Str.ofString "__next__") hJ.typeIs F.slot_tuple_iterator_next
    (wpAny_call_entry F.slot_tuple_iterator_next hJ.typeIs F.entry_tuple_iterator_next ?_ (F.args_tuple_iterator_next_1 _))
  show wpAny _ _ (field (.ref J) 0 >>= _) _ _ s
  refine wpAny_bind (wpAny_field ho hd (x := .ref D) rfl ?_)
  show wpAny _ _ (if (Value.ref D == Value.none) = true then _ else _) _ _ s
  rw [if_neg (show ¬ ((Value.ref D == Value.none) = true) from Bool.false_ne_true)]
  show wpAny _ _ (field (.ref J) 1 >>= _) _ _ s
  refine wpAny_bind (wpAny_field ho hd (x := .int i 0) rfl ?_)
  show wpAny _ _ (seqItems? (.ref D) >>= _) _ _ s
  refine wpAny_bind (wpAny_seqItems hol hdl ?_)
  simp only [Int.toNat_natCast, hx]
  refine wpAny_bind (wpAny_setField ho hd (by simp) (wpAny_pure ⟨x, rfl, hQ _ ?_ (Heap.SameBut.update ..)⟩))
  exact ⟨_, Heap.get?_update_self _ ho (Obj.isFreed_of_fields (Obj.data_mapFields hd _)), (Obj.cls_mapFields ..).trans hc, by
    rw [Obj.data_mapFields hd]; simp [rawInt]⟩
theorem special_tuple_end {J D : Addr} {i : Nat} {items : Array Value} {Q : Option Value → Shared → Prop} (hh : A.handled = none) (hJ : s.heap.IsTupleIter J D i) (hD : s.heap.IsTuple D items) (hx : items[i]? = none)
    (hE : ∀ h' e, Heap.ExtBut J s.heap h' → (∃ o, h'.get? e = some o ∧ o.cls = .type "StopIteration") → E (.ref e) { s with heap := h' }) : wpAny (model prog w) A (callSpecial? (.ref J) (Str.ofString "__next__")) Q E s := by
  obtain ⟨o, ho, hc, hd⟩ := id hJ
  obtain ⟨ol, hol, _, nl, hdl⟩ := hD
  refine wpAny_callSpecial?_slot (name := Str.ofString "__next__") hJ.typeIs F.slot_tuple_iterator_next
    (wpAny_call_entry F.slot_tuple_iterator_next hJ.typeIs F.entry_tuple_iterator_next ?_ (F.args_tuple_iterator_next_1 _))
  show wpAny _ _ (field (.ref J) 0 >>= _) _ _ s
  refine wpAny_bind (wpAny_field ho hd (x := .ref D) rfl ?_)
  show wpAny _ _ (if (Value.ref D == Value.none) = true then _ else _) _ _ s
  rw [if_neg (show ¬ ((Value.ref D == Value.none) = true) from Bool.false_ne_true)]
  show wpAny _ _ (field (.ref J) 1 >>= _) _ _ s
  refine wpAny_bind (wpAny_field ho hd (x := .int i 0) rfl ?_)
  show wpAny _ _ (seqItems? (.ref D) >>= _) _ _ s
  refine wpAny_bind (wpAny_seqItems hol hdl ?_)
  simp only [Int.toNat_natCast, hx]
  refine wpAny_bind (wpAny_rule (wpAny_bind (wpAny_setField ho hd (by simp) ?_)))
  show wpAny _ _ (newExc (.type "StopIteration") [] >>= _) _ _ _
  refine wpAny_bind ?_
  simp only [newExc, newTuple]
  refine wpAny_bind (wpAny_newObj_type ?_ (by size_fits))
  refine wpAny_bind (m := firstArgMember _ _) (wpAny_of_eq (a := Value.none) (by first | rfl | (simp only [firstArgMember]; rfl)) ?_)
  refine wpAny_newObj_type ?_ (by size_fits)
  simp only [raiseNew]
  refine wpAny_bind (wpAny_handled ?_)
  first | rw [show A.in1.handled = none from hh] | rw [hh]
  refine wpAny_bind (wpAny_pure (wpAny_throw ?_))
  exact hE _ _ (((Heap.SameBut.update ..).extBut.push _).push _) ⟨_, Heap.get?_push_size _ rfl, rfl⟩
def nem (x : Str) : Bool := x.length != 0
/-- the run of filter(len, ..)'s next from the place i on -/
theorem filter_run {I J D : Addr} {vs : List Value} {xs : List Str} (hIJ : I ≠ J) (hDJ : D ≠ J) (hvs : StrsAre vs xs) (hlen : ∀ x ∈ xs, x.length ≤ 1048576) (hh : A.handled = none) {R : Result → Shared → Prop} :
    ∀ (k i : Nat) (s : Shared), i + k = vs.length → s.heap.get? I = some (filterObj (.builtin "len") J) → s.heap.IsTupleIter J D i → s.heap.IsTuple D vs.toArray →
    (∀ i' y t h' tk, i ≤ i' → xs[i']? = some y → nem y = true → ((xs.take i').filter nem).length = ((xs.take i).filter nem).length → h'.IsTupleIter J D (i' + 1) → (∀ b o, b ≠ J → s.heap.get? b = some o → h'.get? b = some o) →
      R (.ok (.ret (.str y t))) { s with heap := h', toks := tk }) →
    (∀ e h' tk, (xs.filter nem).length = ((xs.take i).filter nem).length → (∃ o, h'.get? e = some o ∧ o.cls = .type "StopIteration") → (∀ b o, b ≠ J → s.heap.get? b = some o → h'.get? b = some o) →
      R (.error (.ref e)) { s with heap := h', toks := tk }) →
    codeAny (model prog w) A (.builtin "filter.__next__" ⟨[.ref I], []⟩) R s
  | k, i, s, hk, hI, hJ, hD, hit, hend => by
    refine codeAny_builtin entry_filter_next ?_
    rw [Around.under_plainId slot_filter_next.plain]
    have hl := hvs.length
    show wpAny _ _ (field (.ref I) 0 >>= _) _ _ s
    refine wpAny_bind (wpAny_field hI rfl (x := .builtin "len") rfl ?_)
    show wpAny _ _ (field (.ref I) 1 >>= _) _ _ s
    refine wpAny_bind (wpAny_field hI rfl (x := .ref J) rfl ?_)
    cases k with
    | zero =>
      have hn : vs.toArray[i]? = none := by simp; omega
      refine wpAny_bind (special_tuple_end (A := A.in1) hh hJ hD hn fun h' e hx he => ?_)
      refine hend e h' s.toks ?_ he hx
      rw [List.take_of_length_le (by omega)]
    | succ k =>
      have hi : i < xs.length := by omega
      obtain ⟨t, ht⟩ := hvs.get i xs[i] (List.getElem?_eq_getElem hi)
      refine wpAny_bind (special_tuple_item hJ hD (x := .str xs[i] t) (by simpa using ht) fun h' hJ' hs' => ?_)
      have hL : xs[i].length ≤ 1048576 := hlen _ (List.getElem_mem hi)
      refine wpAny_bind (wpAny_holding ?_)
      show wpAny _ _ (if (Value.builtin "len" == Value.none || Value.builtin "len" == Value.type "bool") = true then _ else _) _ _ _
      rw [if_neg (by decide)]
      refine wpAny_bind (P.len_str (by omega) ?_)
      refine wpAny_holding (P.truthy_int ?_)
      have hstep : (xs.take (i + 1)).filter nem = (xs.take i).filter nem ++ [xs[i]].filter nem := by
        rw [List.take_succ_eq_append_getElem hi, List.filter_append]
      by_cases h0 : xs[i].length = 0
      · have e0 : ((xs[i].length : Int) != 0) = false := by simp [h0]
        have hne : nem xs[i] = false := by simp [nem, h0]
        have hcnt : ((xs.take (i + 1)).filter nem).length = ((xs.take i).filter nem).length := by rw [hstep]; simp [hne]
        rw [e0]
        show wpAny _ _ (if false = true then _ else again _) _ _ _
        rw [if_neg Bool.false_ne_true]
        refine wpAny_pure ⟨plainId_quiet slot_filter_next.plain _, ?_⟩
        refine filter_run hIJ hDJ hvs hlen hh k (i + 1) _ (by omega) ((hs'.2 I hIJ).trans hI) hJ' (hD.extBut hs'.extBut hDJ) ?_ ?_
        · intro i' y t' h2 tk hle hy hny hc hJ2 hk2
          exact hit i' y t' h2 tk (by omega) hy hny (hc.trans hcnt) hJ2 fun b o hb e => hk2 b o hb ((hs'.2 b hb).trans e)
        · intro e h2 tk hc he hk2
          exact hend e h2 tk (hc.trans hcnt) he fun b o hb e' => hk2 b o hb ((hs'.2 b hb).trans e')
      · have e0 : ((xs[i].length : Int) != 0) = true := by simp [h0]
        rw [e0]
        show wpAny _ _ (if true = true then ret _ else _) _ _ _
        rw [if_pos rfl]
        exact wpAny_pure (hit i xs[i] t h' _ (Nat.le_refl _) (List.getElem?_eq_getElem hi) (by simp [nem, h0]) rfl hJ' fun b o hb e => (hs'.2 b hb).trans e)
end
end Mine
end
section
/-! part P4 -/
open PySem PySem.W PyProof.Rows PySem.Spec
set_option maxRecDepth 100000
namespace Mine
def FilSt (I J D : Addr) (vs : List Value) (xs : List Str) (j : Nat) (h : Heap) : Prop :=
  ∃ i, i ≤ vs.length ∧ ((xs.take i).filter nem).length = j ∧ h.get? I = some (filterObj (.builtin "len") J) ∧ h.IsTupleIter J D i ∧ h.IsTuple D vs.toArray
theorem filter_get {xs : List Str} {i : Nat} {y : Str} (hy : xs[i]? = some y) (hn : nem y = true) : (xs.filter nem)[((xs.take i).filter nem).length]? = some y := by
  have hi : i < xs.length := (List.getElem?_eq_some_iff.mp hy).1
  have e : xs = xs.take i ++ y :: xs.drop (i + 1) := by
    have := (List.take_append_drop i xs).symm
    rw [List.drop_eq_getElem_cons hi] at this
    rw [(List.getElem?_eq_some_iff.mp hy).2] at this; exact this
  have e2 : xs.filter nem = (xs.take i).filter nem ++ y :: (xs.drop (i + 1)).filter nem := by
    conv => lhs; rw [e]
    rw [List.filter_append, List.filter_cons_of_pos hn]
  rw [e2, List.getElem?_append_right (Nat.le_refl _), Nat.sub_self]; rfl
theorem walks_filter {prog : Program} {w : World} {A : Around} (hh : A.handled = none) {I J D : Addr} {vs : List Value} {xs : List Str} (hIJ : I ≠ J) (hDJ : D ≠ J) (hvs : StrsAre vs xs) (hlen : ∀ x ∈ xs, x.length ≤ 1048576) :
    Walks prog w A I [I, J, D] [J] (xs.filter nem).length (fun j v => ∃ y t, v = Value.str y t ∧ (xs.filter nem)[j]? = some y) (FilSt I J D vs xs) where
  sub := fun b hb => by simp at hb; simp [hb]
  frame := fun j h h' st hk => by
    obtain ⟨i, h1, h2, hI, ⟨oJ, hJ, rJ⟩, ⟨oD, hD, rD⟩⟩ := st
    exact ⟨i, h1, h2, hk I (by simp) _ hI, ⟨oJ, hk J (by simp) _ hJ, rJ⟩, ⟨oD, hk D (by simp) _ hD, rD⟩⟩
  item := fun j s Q E hj st hQ => by
    obtain ⟨i, h1, h2, hI, hJ, hD⟩ := st
    have hT : s.TypeIs (.ref I) "filter" := ⟨_, hI, rfl⟩
    unfold pyNext
    refine wpAny_bind (wpAny_attempt (wpAny_callSpecial?_slot (name := Str.ofString "__next__") hT slot_filter_next (wpAny_call ?_)))
    refine codeAny_of_tree ?_
    show wpAny _ A.in1 (do checkBuiltinCall "filter.__next__" ⟨[.ref I], []⟩; again (.builtin "filter.__next__" ⟨[.ref I], []⟩)) _ _ s
    refine wpAny_bind (slot_filter_next.check _ _ _ _ _ _ _ _ hT (args_filter_next _) (wpAny_pure ⟨plainId_quiet slot_filter_next.plain _, ?_⟩))
    refine filter_run hIJ hDJ hvs hlen hh (vs.length - i) i s (by omega) hI hJ hD ?_ ?_
    · intro i' y t h' tk hle hy hny hc hJ' hk
      refine wpAny_pure (hQ _ h' tk ⟨y, t, rfl, ?_⟩ ?_ fun b o hb e => hk b o (by simpa using hb) e)
      · rw [← h2, ← hc]; exact filter_get hy hny
      · have hi' : i' < xs.length := (List.getElem?_eq_some_iff.mp hy).1
        refine ⟨i' + 1, by rw [hvs.length]; omega, ?_, hk I _ hIJ hI, hJ', ?_⟩
        · rw [List.take_succ_eq_append_getElem hi', List.filter_append, List.length_append, hc, h2, (List.getElem?_eq_some_iff.mp hy).2]
          simp [hny]
        · obtain ⟨oD, hDo, rD⟩ := hD; exact ⟨oD, hk D _ hDJ hDo, rD⟩
    · intro e h' tk hc _ _
      rw [h2] at hc; omega
  done := fun s Q E st hQ => by
    obtain ⟨i, h1, h2, hI, hJ, hD⟩ := st
    have hT : s.TypeIs (.ref I) "filter" := ⟨_, hI, rfl⟩
    unfold pyNext
    refine wpAny_bind (wpAny_attempt (wpAny_callSpecial?_slot (name := Str.ofString "__next__") hT slot_filter_next (wpAny_call ?_)))
    refine codeAny_of_tree ?_
    show wpAny _ A.in1 (do checkBuiltinCall "filter.__next__" ⟨[.ref I], []⟩; again (.builtin "filter.__next__" ⟨[.ref I], []⟩)) _ _ s
    refine wpAny_bind (slot_filter_next.check _ _ _ _ _ _ _ _ hT (args_filter_next _) (wpAny_pure ⟨plainId_quiet slot_filter_next.plain _, ?_⟩))
    refine filter_run hIJ hDJ hvs hlen hh (vs.length - i) i s (by omega) hI hJ hD ?_ ?_
    · intro i' y t h' tk hle hy hny hc hJ' hk
      have := filter_get hy hny
      rw [hc, h2, List.getElem?_eq_none (Nat.le_refl _)] at this; cases this
    · intro e h' tk hc he hk
      obtain ⟨o, ho, hcl⟩ := he
      refine wpAny_bind (wpAny_isInstance (T := "StopIteration") (b := true) ⟨o, ho, hcl⟩ isSubtype_stop ?_)
      exact wpAny_pure (hQ h' tk fun b o hb e => hk b o (by simpa using hb) e)
  self := fun _ _ _ _ st hQ => by
    obtain ⟨i, _, _, hI, _⟩ := st
    exact pyIter_filter hI hQ
end Mine
end
section
/-! part P5 -/
open PySem PySem.W PyProof.Rows PySem.Spec
set_option maxRecDepth 100000
namespace Mine
/-- the table of a code object, whatever it has come to hold -/
def Tab (h : Heap) (c P : Addr) : Prop := ∃ ps, CodeHd h c P ∧ h.get? P = some (tabObj ps) ∧ TriplesOk ps.toList
section
variable {prog : Program} {w : World} {A : Around} {E : Value → Shared → Prop} {s : Shared} {cn : Str} {cs : Scope} {L a c P : Addr} {h₀ : Heap} {m mg mb : Str → Option Value} {bm : Addr} {ob : Obj}
theorem genexprCode_any {M : Model} {env : Env} {pos : Pos} {qn : Str} {scope : Scope} {Q : Value → Shared → Prop} (hc : env.code = .ref c) (T : Tab s.heap c P)
    (hQ : ∀ code h' tk, Heap.ExtBut P s.heap h' → s.heap.objs.size ≤ h'.objs.size → Tab h' c P → Q code { s with heap := h', toks := tk }) : wpAny M A (genexprCode env pos qn scope) Q E s := by
  obtain ⟨ps, C, hP, ht⟩ := T
  cases hf : codeAmong pos ps.toList with
  | some cv => exact wpAny_codeAt_hit hc (C.code hP ht) hf (hQ cv s.heap s.toks (Heap.ExtBut.refl _ _) (Nat.le_refl _) ⟨ps, C, hP, ht⟩)
  | none =>
    refine wpAny_genexprCodeX hc (C.code hP ht) (C.tab hP) hf fun c' h' tk hx hge hlt hcode _ htab _ => ?_
    refine hQ _ h' tk hx (Nat.le_trans hge (Nat.le_of_lt hlt)) ⟨_, CodeHd.of hcode htab, htab.2, ?_⟩
    obtain ⟨_, _, _, _, _, _, _, _, _, _, _, _, _, _, _, _, _, _, _, htr, _⟩ := hcode
    exact htr
abbrev nstrs (l : List Str) : List Str := (l.filter nem).map Txt.strip
theorem range_map_get (l : List Str) : (List.range l.length).map (fun j => l.getD j Str.empty) = l := by
  apply List.ext_getElem
  · simp
  · intro i h1 h2
    simp [List.getD_eq_getElem?_getD] at h1 ⊢
    rw [List.getElem?_eq_getElem h2]; rfl
theorem passing_all (n : Nat) : passing (fun _ => true) n 0 = List.range n := by
  unfold passing; simp
theorem elt_strip {env : Env} {x z : Str} {t : Tok} {q1 q2 q3 : Pos} (hk : env.scope.kind = .function) (hx : env.kindOf x = some .local) (hxd : (x == ("__debug__" : Str)) = false) (hn : s.heap.Ns env.locals m) (hm : m x = some (.str z t))
    (hp : (q2.endLine == q3.line) = true) (hz : z.length ≤ 1048576) :
    wpAny (model prog w) A (eval (.Call (.Attribute (.Name x q1) (Str.ofString "strip") q2) [] [] q3) env) (fun y s₃ => (∃ t', y = Value.str (Txt.strip z) t') ∧ Keeps s s₃) E s := by
  refine method_line (fun _ _ => rfl) hp rfl ?_
  refine wpAny_Name (wpAny_loadName_local hk hx hn hm ?_) hxd
  refine GM.strip ?_
  refine callWith_method0 ?_
  exact SC.strip (fun t' k => ⟨⟨t', rfl⟩, s.heap, k, rfl, fun _ _ e => e⟩) (by rw [sizeLine_eq]; omega)
theorem ltA {a b : Nat} (h : a < b) : @LT.lt Nat instLTNat a b := h
theorem neA {a b : Nat} (h : @Ne Nat a b) : @Ne Addr a b := h
/-- '-'.join(x.strip() for x in filter(len, args)) -/
theorem join_expr {x va : Str} {D : Addr} {vs : List Value} {xs : List Str} {scope : Scope} {k : Nat} {p1 p2 p3 pos q1 q2 q3 q4 q5 q6 q7 q8 : Pos} {Q : Value → Shared → Prop}
    (F : Fr h₀ L s.heap m) (hm : m va = some (.ref D)) (hD : s.heap.IsTuple D vs.toArray) (hvs : StrsAre vs xs) (hlen : ∀ y ∈ xs, y.length ≤ 1048576) (hok : JoinOk dash (nstrs xs) = true) (hsz : xs.length ≤ 100000)
    (hg : h₀.Ns mainGlobals mg) (hb : h₀.Ns builtinsNs mb) (hlim : h₀.NoLimit) (hbm : BMod h₀ mainGlobals mg bm ob)
    (hf1 : mg (Str.ofString "filter") = none) (hf2 : mb (Str.ofString "filter") = some (.type "filter")) (hl1 : mg (Str.ofString "len") = none) (hl2 : mb (Str.ofString "len") = some (.builtin "len"))
    (T : Tab s.heap c P) (hP0 : h₀.get? P = none) (hLP : L ≠ P) (hDP : D ≠ P) (hbare : AllBare s.gens) (hh : A.handled = none) (hroom : A.depth < recursionLimit)
    (hk : cs.kind = .function) (hva : (envOf cn cs L a (.ref c)).kindOf va = some .local) (hvd : (va == ("__debug__" : Str)) = false)
    (hkf : (envOf cn cs L a (.ref c)).kindOf (Str.ofString "filter") = some .globalImplicit) (hkl : (envOf cn cs L a (.ref c)).kindOf (Str.ofString "len") = some .globalImplicit)
    (hco : scope.isCoroutine = false) (hclos : closureFor scope (envOf cn cs L a (.ref c)) = pure []) (hcell : ∀ y ∈ scope.names, y.2 ≠ .cell) (h0 : scope.names.lookup (".0" : Str) = some NameKind.local)
    (hx : scope.names.lookup x = some .local) (hxd : (x == ("__debug__" : Str)) = false) (hkind : scope.kind = .function) (hpos : (p2.endLine == p3.line) = true) (hpos2 : (q2.endLine == q3.line) = true)
    (hQ : ∀ t' s', AllBare s'.gens → s'.os = s.os → (∀ b o, b ≠ P → s.heap.get? b = some o → s'.heap.get? b = some o) → s.heap.objs.size ≤ s'.heap.objs.size → Tab s'.heap c P → Q (.str (Txt.join dash (nstrs xs)) t') s') :
    wpAny (model prog w) A (eval (.Call (.Attribute (.Constant (.str dash) k p1) (Str.ofString "join") p2)
      [.GeneratorExp (.Call (.Attribute (.Name x q1) (Str.ofString "strip") q2) [] [] q3) [⟨.Name x q4, .Call (.Name (Str.ofString "filter") q5) [.Name (Str.ofString "len") q6, .Name va q7] [] q8, [], 0⟩] scope pos] [] p3) (envOf cn cs L a (.ref c))) Q E s := by
  refine method_line (fun _ _ => rfl) hpos rfl ?_
  refine Calls.Constant_str ?_
  refine GM.join ?_
  refine callWith_method1 ?_
  refine spliced_more ?_
  refine wpAny_GeneratorExp_walksQ (cl := []) hh hco hclos hcell h0 hx hkind hroom ?_ (fun _ => rfl)
  -- filter(len, args)
  refine Call_ ?_
  refine ld_builtin_at (s := { s with toks := s.toks + 1 }) F hg hf1 hb hf2 ?_ hk hkf
  refine PyProof.Rows.callWith_type1 ?_
  refine spliced_more (ld_builtin_at (s := { s with toks := s.toks + 1 }) F hg hl1 hb hl2 ?_ hk hkl)
  refine spliced_more (ld (s := { s with toks := s.toks + 1 }) F hm ?_ hk hva hvd)
  refine spliced_none ?_
  refine call_filter (s := { s with toks := s.toks + 1 }) hD ?_
  dsimp only
  have hDlt := ltA (a := D) (b := s.heap.objs.size) (by obtain ⟨o, ho, _⟩ := hD; exact Heap.lt_size ho)
  have keep2 : ∀ b o, s.heap.get? b = some o → ((s.heap.push (tupIter D 0)).push (filterObj (.builtin "len") s.heap.objs.size)).get? b = some o := fun b o e => Heap.get?_push_of_some _ (Heap.get?_push_of_some _ e)
  have hz1 : (s.heap.push (tupIter D 0)).objs.size = s.heap.objs.size + 1 := Heap.size_push ..
  have hI2 : ((s.heap.push (tupIter D 0)).push (filterObj (.builtin "len") s.heap.objs.size)).get? (s.heap.objs.size + 1) = some (filterObj (.builtin "len") s.heap.objs.size) := by
    have := Heap.get?_push_size (s.heap.push (tupIter D 0)) (o := filterObj (.builtin "len") s.heap.objs.size) rfl
    rw [hz1] at this; exact this
  have hJ2 : ((s.heap.push (tupIter D 0)).push (filterObj (.builtin "len") s.heap.objs.size)).IsTupleIter s.heap.objs.size D 0 := ⟨_, Heap.get?_push_of_some _ (Heap.get?_push_size _ rfl), rfl, rfl⟩
  have hz2 : ((s.heap.push (tupIter D 0)).push (filterObj (.builtin "len") s.heap.objs.size)).objs.size = s.heap.objs.size + 2 := by rw [Heap.size_push, hz1]
  generalize hH2 : (s.heap.push (tupIter D 0)).push (filterObj (.builtin "len") s.heap.objs.size) = H2 at *
  refine pyIter_filter (I := s.heap.objs.size + 1) (J := s.heap.objs.size) (s := { s with heap := H2, toks := s.toks + 1 }) hI2 ?_
  have hlim2 : H2.NoLimit := (hlim.keeps F.keep).keeps keep2
  refine ⟨hlim2, ?_⟩
  obtain ⟨ps, C, hP, ht⟩ := T
  have hPlt := ltA (a := P) (b := s.heap.objs.size) (Heap.lt_size hP)
  refine genexprCode_any (c := c) (P := P) (s := { s with heap := H2, toks := s.toks + 1 }) rfl ⟨ps, C.keeps keep2, keep2 _ _ hP, ht⟩ fun code H3 tk3 hx3 hge3 T3 => ?_
  dsimp only at hx3 hge3
  -- old objects but the table are kept
  have keep3 : ∀ b o, b ≠ P → s.heap.get? b = some o → H3.get? b = some o := fun b o hb e => hx3 b o hb (keep2 b o e)
  have keepF : ∀ b o, h₀.get? b = some o → H3.get? b = some o := fun b o e => keep3 b o (fun q => by rw [q, hP0] at e; cases e) (F.keep b o e)
  have M3 := hbm.keeps keepF
  refine wpAny_builtinsFor (s := { s with heap := H3, toks := tk3 }) M3.ns M3.name M3.ne M3.obj M3.cls M3.dict M3.data ?_
  have hD2 : H2.IsTuple D vs.toArray := by obtain ⟨o, ho, r⟩ := hD; exact ⟨o, keep2 _ _ ho, r⟩
  have hst3 : FilSt (s.heap.objs.size + 1) s.heap.objs.size D vs xs 0 H3 := by
    refine ⟨0, Nat.zero_le _, by simp, hx3 _ _ (neA (by omega)) hI2, hJ2.extBut hx3 (neA (by omega)), hD2.extBut hx3 hDP⟩
  have hlim3 : H3.NoLimit := hlim.keeps keepF
  have hcs := ltA (a := cStatics) (b := s.heap.objs.size) (by
    obtain ⟨_, hn, _⟩ := hlim
    exact Nat.lt_of_lt_of_le hn.lt (Nat.le_trans F.above (Nat.le_of_lt F.ns.lt)))
  refine ⟨s.heap.objs.size + 1, [s.heap.objs.size + 1, s.heap.objs.size, D], [s.heap.objs.size], (xs.filter nem).length, _, _, (fun _ => true), (fun i y => ∃ z t, y = Value.str (Txt.strip z) t ∧ (xs.filter nem)[i]? = some z), rfl,
    (fun A' hA' => walks_filter hA' (neA (by omega)) (neA (by omega)) hvs hlen), hst3, ?_, hlim3, (fun q => Nat.ne_of_lt hcs (List.mem_singleton.mp q)), ?_, ?_⟩
  · intro b hb
    simp only [List.mem_cons, List.not_mem_nil, or_false] at hb
    have hge3' := hge3
    rw [hz2] at hge3'
    have : @LT.lt Nat instLTNat b H3.objs.size := by
      rcases hb with rfl | rfl | rfl
      · exact Nat.lt_of_lt_of_le (Nat.lt_succ_self _) hge3'
      · exact Nat.lt_of_lt_of_le (Nat.lt_succ_of_lt (Nat.lt_succ_self _)) hge3'
      · exact Nat.lt_of_lt_of_le hDlt (Nat.le_trans (Nat.le_add_right _ 2) hge3')
    exact this
  · intro href hhref
    refine ⟨fun A' E' i v s₂ m₂ _ _ _ _ _ => wpAny_tests_nil ⟨rfl, s₂.heap, s₂.toks, rfl, fun _ _ e => e⟩, fun A' E' i v s₂ m₂ _ hPv _ hn hmx _ => ?_⟩
    obtain ⟨z, t, rfl, hz⟩ := hPv
    have hzm : z ∈ xs := (List.mem_filter.mp (List.mem_of_getElem? hz)).1
    refine wpAny_mono (elt_strip (env := genEnv scope [] H3.objs.size code builtinsNs (envOf cn cs L a (.ref c))) hkind hx hxd hn hmx hpos2 (hlen z hzm)) (fun y s₃ hy => ?_) fun _ _ e => e
    obtain ⟨⟨t', rfl⟩, hk'⟩ := hy
    exact ⟨⟨z, t', rfl, hz⟩, hk'⟩
  · intro g h₅ tk gs hgb hag hsz5 hk5 W hat
    refine spliced_none ?_
    rw [passing_all] at W
    have hsz5' : ∀ b, b ≤ g → b < h₅.objs.size := fun b hb => by rw [hsz5]; omega
    refine SC.joinGen (W := W.in4_2) (fun i s' st => st.1.typeIs) hat ?_ List.mem_cons_self ?_ (fun s' l hmv hit => ?_) ?_
    · intro b hb
      show b < h₅.objs.size
      rcases List.mem_cons.mp hb with rfl | hb
      · exact hsz5' _ (Nat.le_refl _)
      · rcases List.mem_cons.mp hb with rfl | hb
        · exact hsz5' _ (Nat.le_of_lt hag)
        · exact hsz5' _ (Nat.le_trans (Nat.le_of_lt (List.mem_range.mp hb)) (Nat.le_of_lt hag))
    · rintro i v ⟨_, _, z, t, rfl, _⟩
      exact ⟨_, _, rfl⟩
    · have hl : l.map (·.1) = nstrs xs := by
        have hln : l.length = (xs.filter nem).length := by simpa [strValues] using hit.1
        apply List.ext_getElem?
        intro j
        by_cases hj : j < l.length
        · obtain ⟨i, hi, z, t, hv, hz⟩ := hit.2 j (.str l[j].1 l[j].2) (by simp [strValues, List.getElem?_eq_getElem hj])
          have hij : i = j := by
            rw [List.getElem?_range (by rw [← hln]; simpa using hj)] at hi
            exact (Option.some.inj hi).symm
          subst hij
          injection hv with h1 _
          rw [List.getElem?_map, List.getElem?_eq_getElem hj, nstrs, List.getElem?_map, hz]
          simp [h1]
        · rw [List.getElem?_eq_none (by simpa using Nat.le_of_not_lt hj), List.getElem?_eq_none (by simp [nstrs]; rw [← hln]; exact Nat.le_of_not_lt hj)]
      rw [hl]
      refine ⟨hok, fun t' k => ?_⟩
      have hgens : AllBare s'.gens := by
        have h1 : AllBare (s.gens.push gs) := hbare.push hgb
        exact AllBare.moved h1 hmv.gens
      have hkeep : ∀ b o, b < s.heap.objs.size → H3.get? b = some o → s'.heap.get? b = some o := fun b o hb e => by
        refine hmv.heap b o ?_ (hk5 b o e)
        intro hm'
        rcases List.mem_cons.mp hm' with q | q
        · exact Nat.ne_of_lt (Nat.lt_of_lt_of_le hb (Nat.le_trans (Nat.le_trans (Nat.le_add_right _ 2) (Nat.le_of_eq hz2.symm)) hge3)) q
        · exact Nat.ne_of_lt hb (List.mem_singleton.mp q)
      refine hQ t' { s' with toks := k } hgens hmv.os (fun b o hb e => hkeep b o (Heap.lt_size e) (keep3 b o hb e)) ?_ ?_
      · show s.heap.objs.size ≤ s'.heap.objs.size
        obtain ⟨o, _, _, ho, _⟩ := hat.1
        have hg' : s'.heap.get? g = some o := by
          refine hmv.heap g o ?_ ho
          intro hm'
          rcases List.mem_cons.mp hm' with q | q
          · exact Nat.ne_of_gt hag q
          · have q' := List.mem_singleton.mp q
            exact Nat.ne_of_gt (Nat.lt_of_le_of_lt (Nat.le_trans (Nat.le_trans (Nat.le_add_right _ 2) (Nat.le_of_eq hz2.symm)) hge3) hag) q'
        exact Nat.le_of_lt (Nat.lt_trans (Nat.lt_of_le_of_lt (Nat.le_trans (Nat.le_trans (Nat.le_add_right _ 2) (Nat.le_of_eq hz2.symm)) hge3) hag) (Heap.lt_size hg'))
      · obtain ⟨ps', C', hP', ht'⟩ := T3
        obtain ⟨o, vs', file, tf, flags, tg, inF, text, tt, e1, r⟩ := C'
        obtain ⟨o0, _, _, _, _, _, _, _, _, e0, _⟩ := C
        exact ⟨ps', ⟨o, vs', file, tf, flags, tg, inF, text, tt, hkeep _ _ (Heap.lt_size e0) e1, r⟩, hkeep _ _ hPlt hP', ht'⟩
    · simp; exact Nat.le_trans (List.length_filter_le _ _) (by rw [sizeLine_eq]; omega)
end
end Mine
end
section
/-! part P6 -/
open PySem PySem.W PyProof.Rows PySem.Spec
set_option maxRecDepth 100000
namespace Mine
theorem wp_bind_rest {M : Model} {A : Around} {E : Value → Shared → Prop} {s : Shared} {fd : FuncData} {va : Arg} {vs : List Value} {Q : List (Str × Value) → Shared → Prop}
    (hp : fd.params = ⟨[], [], some va, [], [], none, []⟩) (hd : fd.defaults = .none) (hsz : vs.length ≤ sizeLine)
    (h : Q [(va.arg, .ref s.heap.objs.size)] { s with heap := s.heap.push { cls := .type "tuple", data := .seq vs.toArray } }) : wpAny M A (bindArgs fd ⟨vs, []⟩) Q E s := by
  unfold bindArgs
  simp only [hp, hd, List.map_nil, List.append_nil, List.length_nil, List.zip_nil_left, Option.isNone_some, Bool.and_false, List.forIn_nil, pure_bind, Bool.false_eq_true, if_false, List.take_nil, List.filter_nil, List.isEmpty_nil, Bool.not_true, List.drop_zero, List.drop_nil, List.filterMap_nil, List.nil_append]
  refine wpAny_bind (wpAny_of_eq (a := none) (by rfl) ?_)
  exact wpAny_bind (wpAny_newTuple (wpAny_pure h) hsz)
/-- what stands at the top and does not change -/
structure Wd (w : World) (mg mb : Str → Option Value) (bm : Addr) (ob : Obj) (H0 : Heap) : Prop where
  X : (hd.heap_39 w.params).In H0
  g : H0.Ns mainGlobals mg
  b : H0.Ns builtinsNs mb
  lim : H0.NoLimit
  bmod : BMod H0 mainGlobals mg bm ob
  bi : ∀ x : Str, x ≠ "__name__" → mb x = bootBuiltins x
  n16 : H0.get? 16 = none
  n53 : H0.get? 53 = none
structure Good (H0 : Heap) (s : Shared) : Prop where
  keep : ∀ b o, H0.get? b = some o → s.heap.get? b = some o
  tab : Tab s.heap 20 16
  bare : AllBare s.gens
/-- all but the table of _platform's code stays -/
abbrev Kp (h h' : Heap) : Prop := ∀ b o, b ≠ 16 → h.get? b = some o → h'.get? b = some o
theorem kfill : (PySem.Challenge.rw_mr0080_01 = PySem.Challenge.rw_mr0080_01) ∧ (hd.heap_39 = hd.heap_39) := by
  k_fill; exact ⟨rfl, rfl⟩
/-- the signs of a text: only blank and tab are white -/
def Al (l : List Nat) : Prop := ∀ c ∈ l, c < 128 ∧ Unicode.isSpace c = wh c
theorem strip_al {l : List Nat} (h : Al l) : rstripL Unicode.isSpace (lstripL Unicode.isSpace l) = stripL l := by
  have e1 : ∀ (r : List Nat), (∀ c ∈ r, Unicode.isSpace c = wh c) → lstripL Unicode.isSpace r = lstripL wh r := by
    intro r
    induction r with
    | nil => intro _; rfl
    | cons a t ih =>
      intro hr
      unfold lstripL at ih ⊢
      rw [List.dropWhile_cons, List.dropWhile_cons, hr a (.head _), ih fun c hc => hr c (.tail _ hc)]
  have e2 : ∀ (r : List Nat), (∀ c ∈ r, Unicode.isSpace c = wh c) → rstripL Unicode.isSpace r = rstripL wh r := by
    intro r hr
    unfold rstripL
    have := e1 r.reverse (fun c hc => hr c (by simpa using hc))
    unfold lstripL at this
    rw [this]
  unfold stripL
  rw [e1 l fun c hc => (h c hc).2, e2 _ fun c hc => (h c (mem_lstrip hc)).2]
/-- what _platform gives back -/
def isPlat (xs : List Str) (y : Str) : Prop := tl y = platL (xs.map tl)
theorem one_tl (x y z : Str) (c d : Nat) (hy : tl y = [c]) (hz : tl z = [d]) : tl (Txt.replace x y z) = (tl x).map fun a => if a = c then d else a := by
  rw [replace_tl x y z (by rw [← tl_length, hy]; exact Nat.one_pos), hy, hz, rep_one]
theorem mc_chain (l : List Nat) : ((((((((l.map fun a => if a = 32 then 95 else a).map fun a => if a = 47 then 45 else a).map fun a => if a = 92 then 45 else a).map fun a => if a = 58 then 45 else a).map
    fun a => if a = 59 then 45 else a).map fun a => if a = 34 then 45 else a).map fun a => if a = 40 then 45 else a).map fun a => if a = 41 then 45 else a) = l.map mc := by
  simp only [List.map_map]
  refine List.map_congr_left fun c _ => ?_
  simp only [Function.comp]
  by_cases h : c ∈ [32, 47, 92, 58, 59, 34, 40, 41]
  · simp only [List.mem_cons, List.not_mem_nil, or_false] at h
    rcases h with rfl | rfl | rfl | rfl | rfl | rfl | rfl | rfl <;> decide
  · simp only [List.mem_cons, List.not_mem_nil, or_false, not_or] at h
    obtain ⟨h1, h2, h3, h4, h5, h6, h7, h8⟩ := h
    simp [mc, h1, h2, h3, h4, h5, h6, h7, h8]
theorem join_tl : ∀ l : List Str, tl (Str.join dash l) = inter (l.map tl)
  | [] => rfl
  | [x] => rfl
  | x :: y :: r => by
    rw [join_tl_cons, join_tl (y :: r), dash_tl]
    show tl x ++ [45] ++ inter ((y :: r).map tl) = tl x ++ 45 :: inter ((y :: r).map tl)
    simp
theorem nstrs_tl {xs : List Str} (hal : ∀ x ∈ xs, Al (tl x)) : (nstrs xs).map tl = ((xs.map tl).filter fun x => !x.isEmpty).map stripL := by
  induction xs with
  | nil => rfl
  | cons x r ih =>
    have ihr := ih fun y hy => hal y (.tail _ hy)
    have e : nem x = !(tl x).isEmpty := by
      unfold nem
      rw [← tl_length]
      cases tl x <;> simp
    have hx := strip_al (hal x (.head _))
    unfold nstrs at ihr ⊢
    rw [List.map_cons, List.filter_cons, List.filter_cons, e]
    cases h : (tl x).isEmpty
    · simp only [Bool.not_false, if_true, List.map_cons]
      rw [ihr, strip_tl, hx]
    · simpa using ihr
theorem strip_len (x : Str) : (Txt.strip x).length ≤ x.length := by
  rw [← tl_length, ← tl_length, strip_tl]
  obtain ⟨a, e, _⟩ := lstrip_split Unicode.isSpace (tl x)
  obtain ⟨b, e2, _⟩ := rstrip_split Unicode.isSpace (lstripL Unicode.isSpace (tl x))
  have h1 := congrArg List.length e
  have h2 := congrArg List.length e2
  simp only [List.length_append] at h1 h2
  omega
theorem joinOk_of (l : List Str) (h1 : ∀ x ∈ l, x.length ≤ 1000) (h2 : l.length ≤ 10) : JoinOk dash l = true := by
  unfold JoinOk
  have key : ∀ (l : List Str) (n : Nat), (∀ x ∈ l, x.length ≤ 1000) → l.foldl (fun a (x : Str) => a + x.length + dash.length) n ≤ n + l.length * 1001 := by
    intro l
    induction l with
    | nil => intro n _; simp
    | cons x r ih =>
      intro n h
      have hx := h x (.head _)
      have hd : dash.length = 1 := by decide +kernel
      rw [List.foldl_cons]
      have := ih (n + x.length + dash.length) fun y hy => h y (.tail _ hy)
      rw [List.length_cons]; omega
  have := key l 0 h1
  rw [List.foldl_toArray]
  have e : Builtin.Str.tooLong (l.foldl (fun a (x : Str) => a + x.length + dash.length) 0) = false := by
    unfold Builtin.Str.tooLong
    rw [sizeLine_eq]
    exact decide_eq_false (by omega)
  rw [e]; rfl
theorem join_len (l : List Str) (h1 : ∀ x ∈ l, x.length ≤ 1000) (h2 : l.length ≤ 10) : (Str.join dash l).length ≤ 20000 := by
  have h := StrLaws.join_length_le dash l
  have hd : dash.length = 1 := by decide +kernel
  have hs : ∀ l : List Str, (∀ x ∈ l, x.length ≤ 1000) → (l.map (·.length)).sum ≤ l.length * 1000 := by
    intro l
    induction l with
    | nil => intro _; simp
    | cons x r ih =>
      intro h
      have hx := h x (.head _)
      have := ih fun y hy => h y (.tail _ hy)
      simp only [List.map_cons, List.sum_cons, List.length_cons]; omega
  have := hs l h1
  rw [hd] at h; omega
section
variable {prog : Program} {w : World} {A : Around} {E : Value → Shared → Prop} {s : Shared} {mg mb : Str → Option Value} {bm : Addr} {ob : Obj} {H0 : Heap}
theorem plat_spec (W : Wd w mg mb bm ob H0) {vs : List Value} {xs : List Str} {Q : Value → Shared → Prop} (G : Good H0 s) (hvs : StrsAre vs xs) (hal : ∀ x ∈ xs, Al (tl x)) (hlen : ∀ x ∈ xs, x.length ≤ 1000) (hn : xs.length ≤ 10)
    (hh : A.handled = none) (hroom : A.depth + 1 < recursionLimit)
    (hQ : ∀ y t s', Good H0 s' → Kp s.heap s'.heap → s.heap.objs.size ≤ s'.heap.objs.size → s'.os = s.os → isPlat xs y → Q (.str y t) s') :
    wpAny (model prog w) A (call (.ref 21) vs) Q E s := by
  refine wpAny_call ?_
  have X := W.X
  refine codeAny_call_function (by omega) (G.keep _ _ (X _ _ (by k_is))) rfl rfl rfl rfl ((codeRec_of X (by k_is)).keeps G.keep) ?_
  have hvl : vs.length = xs.length := hvs.length
  refine wp_bind_rest rfl rfl (by rw [sizeLine_eq]; omega) ?_
  -- the frame
  have n16 : ∀ b o, H0.get? b = some o → b ≠ 16 := fun b o e q => by rw [q, W.n16] at e; cases e
  generalize hs1 : s.heap.push { cls := .type "tuple", data := .seq vs.toArray } = h1
  have kp1 : ∀ b o, s.heap.get? b = some o → h1.get? b = some o := fun b o e => hs1 ▸ Heap.get?_push_of_some _ e
  have hD1 : h1.IsTuple s.heap.objs.size vs.toArray := hs1 ▸ ⟨_, Heap.get?_push_size _ rfl, rfl, _, rfl⟩
  have hz1 : h1.objs.size = s.heap.objs.size + 1 := by rw [← hs1]; exact Heap.size_push ..
  refine wpAny_newFunctionEnv (by decide) (locs rfl) (fun h2 hns hsb => ⟨(((W.lim.keeps G.keep).keeps kp1)).fresh _ hsb, ?_⟩) rfl
  dsimp only at hns hsb ⊢
  have kp2 : ∀ b o, h1.get? b = some o → h2.get? b = some o := fun b o e => hsb.extBut b o (Nat.ne_of_lt (Heap.lt_size e)) (Heap.get?_push_of_some _ e)
  show codeAny _ _ (.func _ (envOf (Str.ofString "_platform") _ h1.objs.size 21 (.ref 20))) _ _
  refine codeAny_func ?_
  obtain ⟨ps, C, hP, ht⟩ := G.tab
  have h16lt := ltA (a := 16) (b := s.heap.objs.size) (Heap.lt_size hP)
  have kH : ∀ b o, H0.get? b = some o → (h1.hide 16).get? b = some o := fun b o e => (Heap.hide_ne h1 (n16 b o e)).trans (kp1 b o (G.keep b o e))
  have F : Fr (h1.hide 16) h1.objs.size h2 _ := ⟨hns, fun b o e => kp2 b o (Heap.of_hide e), Nat.le_of_eq (Heap.hide_size h1 16)⟩
  generalize hh0 : h1.hide 16 = h0 at kH F
  have hp16 : h0.get? 16 = none := by rw [← hh0]; exact Heap.hide_self h1 16
  generalize hL : h1.objs.size = L at *
  have hL16 : L ≠ 16 := neA (by omega)
  have T2 : Tab h2 20 16 := ⟨ps, (C.keeps kp1).keeps kp2, kp2 _ _ (kp1 _ _ hP), ht⟩
  have hf1 : mg (Str.ofString "filter") = none := mg_none_of X W.g (by k_is)
  have hf2 : mb (Str.ofString "filter") = some (.type "filter") := (W.bi _ (by decide)).trans (by decide +kernel)
  have hl1 : mg (Str.ofString "len") = none := mg_none_of X W.g (by k_is)
  have hl2 : mb (Str.ofString "len") = some (.builtin "len") := (W.bi _ (by decide)).trans (by decide +kernel)
  have hD2 : h2.IsTuple s.heap.objs.size vs.toArray := by obtain ⟨o, ho, r⟩ := hD1; exact ⟨o, kp2 _ _ ho, r⟩
  have hns1 : ∀ x ∈ nstrs xs, x.length ≤ 1000 := fun x hx => by
    obtain ⟨z, hz, rfl⟩ := List.mem_map.mp hx
    exact Nat.le_trans (strip_len z) (hlen z (List.mem_filter.mp hz).1)
  have hns2 : (nstrs xs).length ≤ 10 := by
    unfold nstrs; rw [List.length_map]; exact Nat.le_trans (List.length_filter_le _ _) hn
  refine wpAny_execs_cons (wpAny_Assign_Name (join_expr (c := 20) (P := 16) (va := Str.ofString "args") (D := s.heap.objs.size) (vs := vs) (xs := xs) (s := { s with heap := h2, toks := s.toks + 1 }) F rfl hD2 hvs
    (fun y hy => Nat.le_trans (hlen y hy) (by decide)) (joinOk_of _ hns1 hns2) (by omega) (W.g.keeps kH) (W.b.keeps kH) (W.lim.keeps kH) (W.bmod.keeps kH) hf1 hf2 hl1 hl2 T2 hp16 hL16 (neA (by omega)) G.bare hh (by show A.depth + 1 < recursionLimit; omega)
    rfl rfl (by decide) rfl rfl rfl rfl (by decide) rfl rfl (by decide) rfl rfl rfl fun t0 s2 hb2 hos2 hk2 hsz2 T3 => ?_))
  have hk2' : ∀ b o, b ≠ 16 → h2.get? b = some o → s2.heap.get? b = some o := hk2
  have F2 : Fr h0 L s2.heap _ := ⟨F.ns.at fun o e => hk2' L o hL16 e, fun b o e => hk2' b o (fun q => by rw [q, hp16] at e; cases e) (F.keep b o e), F.above⟩
  obtain ⟨ps3, C3, hP3, ht3⟩ := T3
  have N2 : News h0 L s2.heap [(16, tabObj ps3)] := fun p hp => by
    obtain rfl := List.mem_singleton.mp hp
    exact ⟨hP3, Ne.symm hL16, hp16⟩
  have hj : tl (Txt.join dash (nstrs xs)) = inter (((xs.map tl).filter fun x => !x.isEmpty).map stripL) := by
    unfold Txt.join
    rw [StrLaws.glued_eq_join, join_tl, nstrs_tl hal]
  have hjl : (Txt.join dash (nstrs xs)).length ≤ 20000 := by
    unfold Txt.join
    rw [StrLaws.glued_eq_join]; exact join_len _ hns1 hns2
  generalize Txt.join dash (nstrs xs) = z0 at hj hjl ⊢
  refine stN F2 N2 (fun g0 G0 M0 => ?_) rfl rfl
  refine wpAny_execs_cons (repl_stmt (x := z0) (s := { s2 with heap := g0, toks := s2.toks + 1 }) G0 M0 (if_pos rfl) (by omega) (by decide +kernel) (by decide +kernel) (Nat.succ_pos _) rfl rfl rfl (by decide) rfl fun t1 g1 n1 hn1 G1 M1 => ?_)
  have e1 := one_tl z0 (Str.ofString " ") (Str.ofString "_") 32 95 (by decide +kernel) (by decide +kernel)
  have l1 : (Txt.replace z0 (Str.ofString " ") (Str.ofString "_")).length = z0.length := by rw [← tl_length, e1, List.length_map, tl_length]
  generalize hz1 : Txt.replace z0 (Str.ofString " ") (Str.ofString "_") = z1 at *
  refine wpAny_execs_cons (repl_stmt (x := z1) (s := { s2 with heap := g1, toks := n1 }) G1 M1 (if_pos rfl) (by omega) (by decide +kernel) (by decide +kernel) (hn1) rfl rfl rfl (by decide) rfl fun t2 g2 n2 hn2 G2 M2 => ?_)
  have e2 := one_tl z1 (Str.ofString "/") (Str.ofString "-") 47 45 (by decide +kernel) (by decide +kernel)
  have l2 : (Txt.replace z1 (Str.ofString "/") (Str.ofString "-")).length = z1.length := by rw [← tl_length, e2, List.length_map, tl_length]
  generalize hz2 : Txt.replace z1 (Str.ofString "/") (Str.ofString "-") = z2 at *
  refine wpAny_execs_cons (repl_stmt (x := z2) (s := { s2 with heap := g2, toks := n2 }) G2 M2 (if_pos rfl) (by omega) (by decide +kernel) (by decide +kernel) (hn2) rfl rfl rfl (by decide) rfl fun t3 g3 n3 hn3 G3 M3 => ?_)
  have e3 := one_tl z2 (Str.ofString "\\") (Str.ofString "-") 92 45 (by decide +kernel) (by decide +kernel)
  have l3 : (Txt.replace z2 (Str.ofString "\\") (Str.ofString "-")).length = z2.length := by rw [← tl_length, e3, List.length_map, tl_length]
  generalize hz3 : Txt.replace z2 (Str.ofString "\\") (Str.ofString "-") = z3 at *
  refine wpAny_execs_cons (repl_stmt (x := z3) (s := { s2 with heap := g3, toks := n3 }) G3 M3 (if_pos rfl) (by omega) (by decide +kernel) (by decide +kernel) (hn3) rfl rfl rfl (by decide) rfl fun t4 g4 n4 hn4 G4 M4 => ?_)
  have e4 := one_tl z3 (Str.ofString ":") (Str.ofString "-") 58 45 (by decide +kernel) (by decide +kernel)
  have l4 : (Txt.replace z3 (Str.ofString ":") (Str.ofString "-")).length = z3.length := by rw [← tl_length, e4, List.length_map, tl_length]
  generalize hz4 : Txt.replace z3 (Str.ofString ":") (Str.ofString "-") = z4 at *
  refine wpAny_execs_cons (repl_stmt (x := z4) (s := { s2 with heap := g4, toks := n4 }) G4 M4 (if_pos rfl) (by omega) (by decide +kernel) (by decide +kernel) (hn4) rfl rfl rfl (by decide) rfl fun t5 g5 n5 hn5 G5 M5 => ?_)
  have e5 := one_tl z4 (Str.ofString ";") (Str.ofString "-") 59 45 (by decide +kernel) (by decide +kernel)
  have l5 : (Txt.replace z4 (Str.ofString ";") (Str.ofString "-")).length = z4.length := by rw [← tl_length, e5, List.length_map, tl_length]
  generalize hz5 : Txt.replace z4 (Str.ofString ";") (Str.ofString "-") = z5 at *
  refine wpAny_execs_cons (repl_stmt (x := z5) (s := { s2 with heap := g5, toks := n5 }) G5 M5 (if_pos rfl) (by omega) (by decide +kernel) (by decide +kernel) (hn5) rfl rfl rfl (by decide) rfl fun t6 g6 n6 hn6 G6 M6 => ?_)
  have e6 := one_tl z5 (Str.ofString "\"") (Str.ofString "-") 34 45 (by decide +kernel) (by decide +kernel)
  have l6 : (Txt.replace z5 (Str.ofString "\"") (Str.ofString "-")).length = z5.length := by rw [← tl_length, e6, List.length_map, tl_length]
  generalize hz6 : Txt.replace z5 (Str.ofString "\"") (Str.ofString "-") = z6 at *
  refine wpAny_execs_cons (repl_stmt (x := z6) (s := { s2 with heap := g6, toks := n6 }) G6 M6 (if_pos rfl) (by omega) (by decide +kernel) (by decide +kernel) (hn6) rfl rfl rfl (by decide) rfl fun t7 g7 n7 hn7 G7 M7 => ?_)
  have e7 := one_tl z6 (Str.ofString "(") (Str.ofString "-") 40 45 (by decide +kernel) (by decide +kernel)
  have l7 : (Txt.replace z6 (Str.ofString "(") (Str.ofString "-")).length = z6.length := by rw [← tl_length, e7, List.length_map, tl_length]
  generalize hz7 : Txt.replace z6 (Str.ofString "(") (Str.ofString "-") = z7 at *
  refine wpAny_execs_cons (repl_stmt (x := z7) (s := { s2 with heap := g7, toks := n7 }) G7 M7 (if_pos rfl) (by omega) (by decide +kernel) (by decide +kernel) (hn7) rfl rfl rfl (by decide) rfl fun t8 g8 n8 hn8 G8 M8 => ?_)
  have e8 := one_tl z7 (Str.ofString ")") (Str.ofString "-") 41 45 (by decide +kernel) (by decide +kernel)
  have l8 : (Txt.replace z7 (Str.ofString ")") (Str.ofString "-")).length = z7.length := by rw [← tl_length, e8, List.length_map, tl_length]
  generalize hz8 : Txt.replace z7 (Str.ofString ")") (Str.ofString "-") = z8 at *
  refine wpAny_execs_cons (repl_stmt (x := z8) (s := { s2 with heap := g8, toks := n8 }) G8 M8 (if_pos rfl) (by omega) (by decide +kernel) (by decide +kernel) hn8 rfl rfl rfl (by decide) rfl fun t9 g9 n9 hn9 G9 M9 => ?_)
  have e9 : tl (Txt.replace z8 (Str.ofString "unknown") (Str.ofString "")) = Rm (tl z8) := by
    rw [replace_tl _ _ _ (by decide +kernel)]
    have u1 : tl (Str.ofString "unknown") = unk := by decide +kernel
    have u2 : tl (Str.ofString "") = [] := by decide +kernel
    rw [u1, u2]; rfl
  have l9 : (Txt.replace z8 (Str.ofString "unknown") (Str.ofString "")).length ≤ z8.length := by
    rw [← tl_length, e9, ← tl_length]; exact (rep_short unk [] (by decide) (tl z8)).1
  generalize hz9 : Txt.replace z8 (Str.ofString "unknown") (Str.ofString "") = z9 at *
  refine wpAny_execs_cons (squeeze_loop (u := Str.ofString "cleaned") (x := z9) (s := { s2 with heap := g9, toks := n9 }) G9 M9 (if_pos rfl) (by omega) hn9 rfl rfl rfl (by decide) (by decide) (by decide) rfl fun y t10 g10 n10 m10 hn10 G10 M10 hm10 ey => ?_)
  have ly : y.length ≤ z9.length := by
    rw [← tl_length, ey, ← tl_length]
    have : ∀ (l : List Nat) (b : Bool), (Hf b l).length ≤ l.length := by
      intro l
      induction l with
      | nil => intro b; simp [Hf]
      | cons c r ih =>
        intro b
        rw [Hf_cons]
        split
        · split
          · exact Nat.le_trans (ih true) (Nat.le_succ _)
          · exact Nat.succ_le_succ (ih true)
        · exact Nat.succ_le_succ (ih false)
    exact this _ _
  refine wpAny_execs_cons (trail_loop (x := y) (s := { s2 with heap := g10, toks := n10 }) G10 M10 hm10 (by omega) rfl rfl (by decide) fun y' t11 g11 n11 m11 G11 M11 hm11 ey' => ?_)
  refine wpAny_execs_cons (wpAny_Return_some (ld G11 hm11 ?_ rfl rfl (by decide)))
  have C0 : CodeHd h0 20 16 := codeHd_of_K (X.keeps kH) (by kernel_rfl)
  refine hQ y' t11 { s2 with heap := g11, toks := n11 } ⟨fun b o e => G11.keep b o (kH b o e), ⟨ps3, C0.keeps G11.keep, (M11 _ (.head _)).1, ht3⟩, hb2⟩ (fun b o hb e => G11.keep b o (by rw [← hh0]; exact (Heap.hide_ne h1 hb).trans (kp1 b o e))) ?_ hos2 ?_
  · show s.heap.objs.size ≤ g11.objs.size
    have h3 := G11.ns.lt
    exact Nat.le_of_lt (Nat.lt_of_le_of_lt (by omega : s.heap.objs.size ≤ L) h3)
  · unfold isPlat platL
    rw [ey', ey, e9, e8, e7, e6, e5, e4, e3, e2, e1, mc_chain, hj]
end
end Mine
end
section
/-! part P7 -/
open PySem PySem.W PyProof.Rows PySem.Spec
set_option maxRecDepth 100000
namespace Mine
abbrev nSign : Str := Str.ofString "sign"
abbrev nTold : Str := Str.ofString "told"
theorem str_one_tl (c : Nat) : tl ⟨#[c]⟩ = [c] := rfl
section
variable {prog : Program} {w : World} {A : Around} {E : Value → Shared → Prop} {s : Shared} {cn : Str} {cs : Scope} {L a : Addr} {cd : Value} {h₀ : Heap} {m : Str → Option Value} {news : List (Addr × Obj)}
/-- x[-k:] == y and the like: the cut text -/
theorem cut_back {v x : Str} {t : Tok} {k : Nat} {k1 : Nat} {r2 r3 r4 r5 r6 : Pos} {Q : Value → Shared → Prop} (F : Fr h₀ L s.heap m) (N : News h₀ L s.heap news) (hm : m v = some (.str x t)) (hx : x.length ≤ 1048576) (hk0 : 0 < k)
    (hk : cs.kind = .function) (hv : (envOf cn cs L a cd).kindOf v = some .local) (hd : (v == ("__debug__" : Str)) = false)
    (h : ∀ y t' h' tk, Fr h₀ L h' m → News h₀ L h' news → tl y = (tl x).drop (x.length - k) → Q (.str y t') { s with heap := h', toks := tk }) :
    wpAny (model prog w) A (eval (.Subscript (.Name v r2) (.Slice (some (.UnaryOp .USub (.Constant (.int k) k1 r3) r4)) none none r5) r6) (envOf cn cs L a cd)) Q E s := by
  refine Subscript_ (ld F hm ?_ hk hv hd)
  refine wpAny_Slice ?_
  refine wpAny_evalPart_some (UnaryOp_ (wpAny_Constant_int (neg_int ?_)))
  refine wpAny_evalPart_none ?_
  refine wpAny_evalPart_none ?_
  refine slice_strN_sn (s := ⟨s.heap, _, _, _, _⟩) F N (fun h2 t2 k2 F2 N2 => ?_) rfl (fun _ => rfl) (by rw [sizeLine_eq]; omega)
  exact h _ t2 h2 k2 F2 N2 (slice_from_tl x k hk0)
theorem cut_front {v x : Str} {t : Tok} {k : Nat} {k1 : Nat} {r2 r3 r4 r5 r6 : Pos} {Q : Value → Shared → Prop} (F : Fr h₀ L s.heap m) (N : News h₀ L s.heap news) (hm : m v = some (.str x t)) (hx : x.length ≤ 1048576) (hk0 : 0 < k)
    (hk : cs.kind = .function) (hv : (envOf cn cs L a cd).kindOf v = some .local) (hd : (v == ("__debug__" : Str)) = false)
    (h : ∀ y t' h' tk, Fr h₀ L h' m → News h₀ L h' news → tl y = (tl x).take (x.length - k) → Q (.str y t') { s with heap := h', toks := tk }) :
    wpAny (model prog w) A (eval (.Subscript (.Name v r2) (.Slice none (some (.UnaryOp .USub (.Constant (.int k) k1 r3) r4)) none r5) r6) (envOf cn cs L a cd)) Q E s := by
  refine Subscript_ (ld F hm ?_ hk hv hd)
  refine wpAny_Slice ?_
  refine wpAny_evalPart_none ?_
  refine wpAny_evalPart_some (UnaryOp_ (wpAny_Constant_int (neg_int ?_)))
  refine wpAny_evalPart_none ?_
  refine slice_strN_ns (s := ⟨s.heap, _, _, _, _⟩) F N (fun h2 t2 k2 F2 N2 => ?_) rfl (fun _ => rfl) (by rw [sizeLine_eq]; omega)
  exact h _ t2 h2 k2 F2 N2 (slice_to_tl x k hk0)
theorem beq_tl (x y : Str) : (x == y) = (tl x == tl y) := by
  by_cases h : x = y
  · rw [h]; simp
  · have : tl x ≠ tl y := fun q => h (tl_inj q)
    rw [beq_eq_false_iff_ne.mpr h, beq_eq_false_iff_ne.mpr this]
theorem bne_tl (x y : Str) : (x != y) = (tl x != tl y) := by unfold bne; rw [beq_tl]
abbrev sevens : Str := Str.ofString "/\\:;\"()"
theorem sevens_tl : tl sevens = [47, 92, 58, 59, 34, 40, 41] := by decide +kernel
/-- '_' if sign == ' ' else '-' if sign in '/\\:;"()' else sign -/
theorem sign_expr {c : Nat} {t : Tok} {k1 k2 k3 k4 : Nat} {r1 r2 r3 r4 r5 r6 r7 r8 r9 r10 r11 : Pos} {Q : Value → Shared → Prop} (F : Fr h₀ L s.heap m) (hm : m nSign = some (.str ⟨#[c]⟩ t))
    (hk : cs.kind = .function) (hv : (envOf cn cs L a cd).kindOf nSign = some .local)
    (h : ∀ y t' tk, tl y = [mc c] → Q (.str y t') { s with toks := tk }) :
    wpAny (model prog w) A (eval (.IfExp (.Compare (.Name nSign r1) [.Eq] [.Constant (.str (Str.ofString " ")) k1 r2] r3) (.Constant (.str (Str.ofString "_")) k2 r4)
      (.IfExp (.Compare (.Name nSign r5) [.In] [.Constant (.str sevens) k3 r6] r7) (.Constant (.str dash) k4 r8) (.Name nSign r9) r10) r11) (envOf cn cs L a cd)) Q E s := by
  refine wpAny_IfExp (wpAny_isTrue_Compare1 (ld F hm ?_ hk hv (by decide)))
  refine Calls.Constant_str (PyProof.Rows.eq_str (wpAny_truthy_bool ?_))
  have e1 : ((⟨#[c]⟩ : Str) == Str.ofString " ") = (c == 32) := by
    rw [beq_tl, str_one_tl, show tl (Str.ofString " ") = [32] from by decide +kernel]
    simp
  rw [e1]
  by_cases h1 : c = 32
  · rw [if_pos (by simp [h1])]
    refine Calls.Constant_str ?_
    refine h _ _ _ ?_
    rw [h1]; decide +kernel
  · rw [if_neg (by simp [h1])]
    refine wpAny_IfExp (wpAny_isTrue_Compare1 (ld (s := { s with toks := s.toks + 1 }) F hm ?_ hk hv (by decide)))
    refine Calls.Constant_str (PyProof.Rows.in_str (wpAny_truthy_bool ?_))
    have e2 : (!(Builtin.Str.occurrences sevens ⟨#[c]⟩ 0 sevens.length 1).isEmpty) = decide (c ∈ [47, 92, 58, 59, 34, 40, 41]) := by
      rw [StrLaws.found_one]
      show decide (c ∈ tl sevens) = _
      rw [sevens_tl]
    rw [e2]
    by_cases h2 : c ∈ [47, 92, 58, 59, 34, 40, 41]
    · rw [if_pos (by simpa using h2)]
      refine Calls.Constant_str ?_
      refine h _ _ _ ?_
      rw [dash_tl]
      simp only [List.mem_cons, List.not_mem_nil, or_false] at h2
      simp [mc, h1, h2]
    · rw [if_neg (by simpa using h2)]
      refine ld (s := { s with toks := s.toks + 1 + 1 }) F hm ?_ hk hv (by decide)
      refine h ⟨#[c]⟩ _ _ ?_
      simp only [List.mem_cons, List.not_mem_nil, or_false] at h2
      simp [str_one_tl, mc, h1, h2]
/-- one turn of _law_clean's loop -/
theorem clean_turn {c : Nat} {τ : List Nat} {σ : Str} {t t' : Tok} {k1 k2 k3 k4 k5 k6 k7 k8 k9 k10 : Nat} {r1 r2 r3 r4 r5 r6 r7 r8 r9 r10 r11 r12 r13 r14 r15 r16 r17 r18 r19 r20 r21 r22 r23 r24 r25 r26 r27 r28 r29 r30 r31 r32 r33 r34 r35 r36 r37 r38 r39 r40 r41 r42 r43 r44 r45 : Pos}
    {Q : Flow → Shared → Prop} (F : Fr h₀ L s.heap m) (N : News h₀ L s.heap news) (hm : m nSign = some (.str ⟨#[c]⟩ t)) (ht : m nTold = some (.str σ t')) (hσ : tl σ = τ.reverse) (hl : σ.length ≤ 100000)
    (hk : cs.kind = .function) (hs : (envOf cn cs L a cd).kindOf nSign = some .local) (hv : (envOf cn cs L a cd).kindOf nTold = some .local)
    (h : ∀ σ' t2 h' tk m', Fr h₀ L h' m' → News h₀ L h' news → m' nTold = some (.str σ' t2) → tl σ' = (pst τ (mc c)).reverse → Q .next { s with heap := h', toks := tk }) :
    wpAny (model prog w) A (execs [
      .Assign [.Name nSign r1] (.IfExp (.Compare (.Name nSign r2) [.Eq] [.Constant (.str (Str.ofString " ")) k1 r3] r4) (.Constant (.str (Str.ofString "_")) k2 r5)
        (.IfExp (.Compare (.Name nSign r6) [.In] [.Constant (.str sevens) k3 r7] r8) (.Constant (.str dash) k4 r9) (.Name nSign r10) r11) r12) r13,
      .If (.BoolOp .Or [.Compare (.Name nSign r14) [.NotEq] [.Constant (.str dash) k5 r15] r16,
          .Compare (.Subscript (.Name nTold r17) (.Slice (some (.UnaryOp .USub (.Constant (.int 1) k6 r18) r19)) none none r20) r21) [.NotEq] [.Constant (.str dash) k7 r22] r23] r24)
        [.Assign [.Name nTold r25] (.BinOp (.Name nTold r26) .Add (.Name nSign r27) r28) r29] [] r30,
      .If (.Compare (.Subscript (.Name nTold r31) (.Slice (some (.UnaryOp .USub (.Constant (.int 7) k8 r32) r33)) none none r34) r35) [.Eq] [.Constant (.str (Str.ofString "unknown")) k9 r36] r37)
        [.Assign [.Name nTold r38] (.Subscript (.Name nTold r39) (.Slice none (some (.UnaryOp .USub (.Constant (.int 7) k10 r40) r41)) none r42) r43) r44] [] r45] (envOf cn cs L a cd)) Q E s := by
  have hne : nTold ≠ nSign := by decide
  refine wpAny_execs_cons (wpAny_Assign_Name (sign_expr F hm hk hs fun y u tk hy => ?_))
  refine stN (s := { s with toks := tk }) F N (fun h1 F1 N1 => ?_) hk hs
  have hs1 : put m nSign (.str y u) nSign = some (.str y u) := put_same _ _ _
  have ht1 : put m nSign (.str y u) nTold = some (.str σ t') := (put_other _ _ hne).trans ht
  -- the last sign of the pile
  have hlast : (tl σ).drop (σ.length - 1) = (τ.head?).toList := by
    rw [hσ, ← tl_length, hσ]
    cases τ with
    | nil => rfl
    | cons b r => simp
  -- the second statement's end, whichever way
  have second : ∀ (s2 : Shared) (m2 : Str → Option Value) (σ2 : Str) (t2 : Tok), (∃ h' tk, s2 = { s with heap := h', toks := tk }) → Fr h₀ L s2.heap m2 → News h₀ L s2.heap news → m2 nTold = some (.str σ2 t2) →
      tl σ2 = (if mc c = 45 ∧ τ.head? = some 45 then τ else mc c :: τ).reverse → σ2.length ≤ 1000000 →
      wpAny (model prog w) A (execs [.If (.Compare (.Subscript (.Name nTold r31) (.Slice (some (.UnaryOp .USub (.Constant (.int 7) k8 r32) r33)) none none r34) r35) [.Eq] [.Constant (.str (Str.ofString "unknown")) k9 r36] r37)
        [.Assign [.Name nTold r38] (.Subscript (.Name nTold r39) (.Slice none (some (.UnaryOp .USub (.Constant (.int 7) k10 r40) r41)) none r42) r43) r44] [] r45] (envOf cn cs L a cd)) Q E s2 := by
    rintro s2 m2 σ2 t2 ⟨h', tk', rfl⟩ F2 N2 hm2 hσ2 hl2
    generalize hτ2 : (if mc c = 45 ∧ τ.head? = some 45 then τ else mc c :: τ) = τ2 at hσ2
    have hp : pst τ (mc c) = if τ2.take 7 = unkr then τ2.drop 7 else τ2 := by unfold pst; rw [hτ2]
    have hlen2 : σ2.length = τ2.length := by rw [← tl_length, hσ2, List.length_reverse]
    refine wpAny_execs_cons (wpAny_If (wpAny_isTrue_Compare1 ?_))
    refine cut_back (s := { s with heap := h', toks := tk' }) (k := 7) F2 N2 hm2 (by omega) (by omega) hk hv (by decide) fun z tz h3 tk3 F3 N3 hz => ?_
    refine Calls.Constant_str (PyProof.Rows.eq_str (wpAny_truthy_bool ?_))
    have hz2 : tl z = (τ2.take 7).reverse := by
      rw [hz, hσ2, hlen2, List.drop_reverse]
      congr 1
      by_cases h7 : 7 ≤ τ2.length
      · have : τ2.length - (τ2.length - 7) = 7 := by omega
        rw [this]
      · have e1 : τ2.length - (τ2.length - 7) = τ2.length := by omega
        rw [e1, List.take_of_length_le (Nat.le_refl _), List.take_of_length_le (by omega)]
    have e1 : (z == Str.ofString "unknown") = decide (τ2.take 7 = unkr) := by
      rw [beq_tl, hz2, show tl (Str.ofString "unknown") = unkr.reverse from by decide +kernel]
      by_cases q : τ2.take 7 = unkr
      · rw [q]; simp
      · have : (τ2.take 7).reverse ≠ unkr.reverse := fun e => q (List.reverse_inj.mp e)
        rw [beq_eq_false_iff_ne.mpr this, decide_eq_false q]
    rw [e1]
    by_cases q : τ2.take 7 = unkr
    · rw [if_pos (by simpa using q)]
      refine wpAny_execs_cons (wpAny_Assign_Name ?_)
      refine cut_front (s := { s with heap := h3, toks := tk3 + 1 }) (k := 7) F3 N3 hm2 (by omega) (by omega) hk hv (by decide) fun z3 t3 h4 tk4 F4 N4 hz3 => ?_
      refine stN (s := { s with heap := h4, toks := tk4 }) F4 N4 (fun h5 F5 N5 => ?_) hk hv
      refine wpAny_execs_nil (wpAny_execs_nil ?_)
      refine h z3 t3 h5 _ _ F5 N5 (put_same _ _ _) ?_
      rw [hz3, hσ2, hlen2, hp, if_pos q, List.take_reverse]
      have : τ2.length - (τ2.length - 7) = 7 := by
        have := congrArg List.length q
        simp [unkr] at this; omega
      rw [this]
    · rw [if_neg (by simpa using q)]
      refine wpAny_execs_nil (wpAny_execs_nil ?_)
      refine h σ2 t2 h3 _ m2 F3 N3 hm2 ?_
      rw [hσ2, hp, if_neg q]
  -- told + sign
  have grow : ∀ (s2 : Shared), (∃ h' tk, s2 = { s with heap := h', toks := tk }) → Fr h₀ L s2.heap (put m nSign (.str y u)) → News h₀ L s2.heap news → ¬ (mc c = 45 ∧ τ.head? = some 45) →
      wpAny (model prog w) A (execs [.Assign [.Name nTold r25] (.BinOp (.Name nTold r26) .Add (.Name nSign r27) r28) r29] (envOf cn cs L a cd)) (fun f s' => match f with
        | .next => wpAny (model prog w) A (execs [.If (.Compare (.Subscript (.Name nTold r31) (.Slice (some (.UnaryOp .USub (.Constant (.int 7) k8 r32) r33)) none none r34) r35) [.Eq] [.Constant (.str (Str.ofString "unknown")) k9 r36] r37)
          [.Assign [.Name nTold r38] (.Subscript (.Name nTold r39) (.Slice none (some (.UnaryOp .USub (.Constant (.int 7) k10 r40) r41)) none r42) r43) r44] [] r45] (envOf cn cs L a cd)) Q E s'
        | f => Q f s') E s2 := by
    rintro s2 ⟨h', tk', rfl⟩ F2 N2 hn
    refine wpAny_execs_cons (wpAny_Assign_Name (wpAny_BinOp (ld F2 ht1 ?_ hk hv (by decide))))
    refine ld F2 hs1 ?_ hk hs (by decide)
    have hy1 : y.length = 1 := by rw [← tl_length, hy]; rfl
    refine SBL.add (fun t3 k3 _ => ?_) (by rw [sizeLine_eq]; omega)
    refine stN (s := { s with heap := h', toks := k3 }) F2 N2 (fun h5 F5 N5 => ?_) hk hv
    refine wpAny_execs_nil ?_
    refine second _ _ (σ ++ y) t3 ⟨_, _, rfl⟩ F5 N5 (put_same _ _ _) ?_ (by rw [Str.length_append]; omega)
    rw [if_neg hn]
    show (σ.cps ++ y.cps).toList = _
    rw [Array.toList_append]
    show tl σ ++ tl y = _
    rw [hσ, hy]; simp
  -- sign != '-' or told[-1:] != '-'
  refine wpAny_execs_cons (wpAny_If (wpAny_isTrue_BoolOp (wpAny_allTrue_Or_cons (wpAny_isTrue_Compare1 ?_))))
  refine ld F1 hs1 ?_ hk hs (by decide)
  refine Calls.Constant_str (PyProof.Rows.ne_str (wpAny_truthy_bool ?_))
  have e1 : (y != dash) = (mc c != 45) := by
    rw [bne_tl, hy, dash_tl]; simp [bne]
  rw [e1]
  by_cases hc : mc c = 45
  · rw [if_neg (by simp [hc])]
    refine wpAny_allTrue_Or_cons (wpAny_isTrue_Compare1 ?_)
    refine cut_back (s := { s with heap := h1, toks := _ }) (k := 1) F1 N1 ht1 (by omega) (by omega) hk hv (by decide) fun z tz h3 tk3 F3 N3 hz => ?_
    refine Calls.Constant_str (PyProof.Rows.ne_str (wpAny_truthy_bool ?_))
    have e2 : (z != dash) = !decide (τ.head? = some 45) := by
      rw [bne_tl, hz, hlast, dash_tl]
      cases τ with
      | nil => rfl
      | cons b r =>
        by_cases hb : b = 45
        · simp [hb]
        · simp [hb, bne]
    rw [e2]
    by_cases hd : τ.head? = some 45
    · rw [if_neg (by simp [hd])]
      refine wpAny_allTrue_Or_nil ?_
      rw [if_neg Bool.false_ne_true]
      refine wpAny_execs_nil ?_
      exact second _ _ σ t' ⟨_, _, rfl⟩ F3 N3 ht1 (by rw [if_pos ⟨hc, hd⟩]; exact hσ) (by omega)
    · rw [if_pos (by simp [hd])]
      rw [if_pos rfl]
      exact grow _ ⟨_, _, rfl⟩ F3 N3 (fun q => hd q.2)
  · rw [if_pos (by simp [hc])]
    rw [if_pos rfl]
    exact grow _ ⟨_, _, rfl⟩ F1 N1 (fun q => hc q.1)
end
end Mine
end
section
/-! part P8 -/
open PySem PySem.W PyProof.Rows PySem.Spec
set_option maxRecDepth 100000
namespace Mine
theorem kfill8 : (PySem.Challenge.rw_mr0080_01 = PySem.Challenge.rw_mr0080_01) ∧ (hd.heap_39 = hd.heap_39) := by
  k_fill; exact ⟨rfl, rfl⟩
theorem mem_rstrip' {g : Nat → Bool} {l : List Nat} {c : Nat} (h : c ∈ rstripL g l) : c ∈ l := mem_rstrip h
/-- the same in every state that the call leaves behind -/
structure Same (H0 : Heap) (s s' : Shared) : Prop where
  keep : ∀ b o, s.heap.get? b = some o → s'.heap.get? b = some o
  size : s.heap.objs.size ≤ s'.heap.objs.size
  os : s'.os = s.os
  gens : s'.gens = s.gens
theorem Same.good {H0 : Heap} {s s' : Shared} (x : Same H0 s s') (G : Good H0 s) : Good H0 s' := by
  refine ⟨fun b o e => x.keep b o (G.keep b o e), ?_, x.gens ▸ G.bare⟩
  obtain ⟨ps, C, hP, ht⟩ := G.tab
  exact ⟨ps, C.keeps x.keep, x.keep _ _ hP, ht⟩
theorem pst_len (τ : List Nat) (c : Nat) : (pst τ c).length ≤ τ.length + 1 := by
  have h1 : (if c = 45 ∧ τ.head? = some 45 then τ else c :: τ).length ≤ τ.length + 1 := by split <;> simp
  unfold pst
  generalize (if c = 45 ∧ τ.head? = some 45 then τ else c :: τ) = τ1 at h1
  split
  · rw [List.length_drop]; omega
  · exact h1
theorem hpl : ∀ (l : List Nat) (τ : List Nat), (l.foldl pst τ).length ≤ τ.length + l.length
  | [], τ => by simp
  | c :: r, τ => by
    have := hpl r (pst τ c)
    have hp := pst_len τ c
    rw [List.foldl_cons, List.length_cons]; omega
section
variable {prog : Program} {w : World} {A : Around} {E : Value → Shared → Prop} {s : Shared} {mg mb : Str → Option Value} {bm : Addr} {ob : Obj} {H0 : Heap}
theorem fr_walk {h₀ h h' : Heap} {L J : Addr} {m : Str → Option Value} (F : Fr h₀ L h m) (hs : Heap.ExtBut J h h') (hJL : L ≠ J) (hJ : h₀.get? J = none) : Fr h₀ L h' m :=
  ⟨F.ns.at fun o e => hs L o hJL e, fun b o e => hs b o (fun q => by rw [q, hJ] at e; cases e) (F.keep b o e), F.above⟩
theorem clean_spec (W : Wd w mg mb bm ob H0) {x : Str} {t : Tok} {Q : Value → Shared → Prop} (G : Good H0 s) (hal : Al (tl x)) (hl : x.length ≤ 1000) (hh : A.handled = none) (hroom : A.depth < recursionLimit)
    (hQ : ∀ y t' s', Same H0 s s' → tl y = cleanL (tl x) → Q (.str y t') s') :
    wpAny (model prog w) A (call (.ref 37) [.str x t]) Q E s := by
  refine wpAny_call ?_
  have X := W.X
  have ho := G.keep _ _ (X 37 _ (by k_is))
  refine call_plain hroom ho rfl (W.lim.keeps G.keep) ((codeRec_of X (by k_is)).keeps G.keep) rfl (locs rfl) (fun h1 F => ?_)
  generalize hL : s.heap.objs.size = L at *
  -- told = ''
  refine wpAny_execs_cons (wpAny_Assign_Name (Calls.Constant_str ?_))
  refine stN F News.nil (fun h2 F2 _ => ?_) rfl rfl
  -- for sign in raw.strip()
  refine wpAny_execs_cons (wpAny_For ?_)
  refine method_line (fun _ _ => rfl) rfl rfl ?_
  refine ld F2 (v := .str x t) rfl ?_ rfl rfl (by decide)
  refine GM.strip ?_
  refine callWith_method0 ?_
  refine SC.strip (fun t1 k1 => ?_) (by rw [sizeLine_eq]; omega)
  have hz : tl (Txt.strip x) = stripL (tl x) := by rw [strip_tl, strip_al hal]
  have hzl : (Txt.strip x).length ≤ 1000 := Nat.le_trans (strip_len x) hl
  generalize Txt.strip x = z at hz hzl ⊢
  have hasc : z.cps.all (· < 128) = true := by
    rw [Array.all_eq_true']
    intro c hc
    have : c ∈ tl z := Array.mem_toList_iff.mpr hc
    rw [hz] at this
    simpa using (hal c (mem_strip this)).1
  refine wpAny_pyIter_ascii (s := ⟨h2, _, _, k1, _⟩) hasc ?_
  have hJL := ltA (a := L) (b := h2.objs.size) F2.ns.lt
  have hJ0 : s.heap.get? h2.objs.size = none := Heap.get?_none_of_le (Nat.le_of_lt (by rw [hL]; exact hJL))
  have F3 := F2.push { cls := .type "str_ascii_iterator", data := .fields #[.str z t1, .int 0 0] }
  have N3 := News.push F2 News.nil { cls := .type "str_ascii_iterator", data := .fields #[.str z t1, .int 0 0] }
  generalize hJ : h2.objs.size = J at *
  refine codeAny_forLoop (fun n s' => ∃ i h' tk m' oJ σ t', s' = { s with heap := h', toks := tk } ∧ i + n = z.length ∧ Fr s.heap L h' m' ∧ News s.heap L h' [(J, oJ)] ∧ oJ.cls = .type "str_ascii_iterator" ∧ oJ.data = .fields #[.str z t1, .int i 0] ∧
      m' nTold = some (.str σ t') ∧ tl σ = ((((tl z).take i).map mc).foldl pst []).reverse) ?_ z.length
    ⟨0, _, k1, _, _, Str.ofString "", _, rfl, Nat.zero_add _, F3, N3, rfl, rfl, if_pos rfl, by rw [List.take_zero]; decide +kernel⟩
  rintro n s' ⟨i, h', tk, m', oJ, σ, t', rfl, hi, F', N', hc, hd, hm', hσ⟩
  have hit : h'.IsStrIter J "str_ascii_iterator" z t1 i := ⟨oJ, (N' _ (.head _)).1, hc, hd⟩
  have hLJ : L ≠ J := Nat.ne_of_lt hJL
  cases n with
  | zero =>
    have hn : z.cps[i]? = none := by
      rw [Array.getElem?_eq_none_iff]; show z.length ≤ i; omega
    refine wpAny_pyNext_ascii_end (s := { s with heap := h', toks := tk }) hh hit hn fun h4 hx4 => ?_
    have F4 := fr_walk F' hx4 hLJ hJ0
    refine wpAny_execs_nil ?_
    -- return told.lstrip('\t').rstrip('-\t')
    refine wpAny_execs_cons (wpAny_Return_some ?_)
    refine method_line (fun _ _ => rfl) rfl rfl ?_
    refine method_line (fun _ _ => rfl) rfl rfl ?_
    refine ld F4 hm' ?_ rfl rfl (by decide)
    have hσl : σ.length ≤ 1000 := by
      rw [← tl_length, hσ, List.length_reverse]
      have := hpl (((tl z).take i).map mc) []
      rw [List.length_map, List.length_take, tl_length] at this
      simp only [List.length_nil] at this; omega
    refine GM.lstrip ?_
    refine callWith_method1 (spliced_more (Calls.Constant_str (spliced_none ?_)))
    refine SC.lstripChars (fun t5 k5 => ?_) (by rw [sizeLine_eq]; omega)
    refine GM.rstrip ?_
    refine callWith_method1 (spliced_more (Calls.Constant_str (spliced_none ?_)))
    have e1 := lstripChars_tl σ (Str.ofString "\t")
    have l1 : (Txt.lstripChars σ (Str.ofString "\t")).length ≤ 1000 := by
      rw [← tl_length, e1]
      obtain ⟨a, ea, _⟩ := lstrip_split (Str.ofString "\t").cps.contains (tl σ)
      have := congrArg List.length ea
      rw [List.length_append, tl_length] at this; omega
    refine SC.rstripChars (fun t6 k6 => ?_) (by rw [sizeLine_eq]; omega)
    refine hQ _ t6 { s with heap := h4, toks := k6 } ⟨fun b o e => F4.keep b o e, Nat.le_of_lt (by rw [hL]; exact F4.ns.lt), rfl, rfl⟩ ?_
    rw [rstripChars_tl, e1, hσ]
    have hi' : (tl z).take i = tl z := List.take_of_length_le (by rw [tl_length]; omega)
    rw [hi', hz]
    unfold cleanL ends
    have c1 : (Str.ofString "\t").cps.contains = fun c => c == 9 := by
      funext c
      have : (Str.ofString "\t").cps = #[9] := by decide +kernel
      rw [this]; simp [Array.contains, BEq.comm]
    have c2 : (Str.ofString "-\t").cps.contains = fun c => c == 45 || c == 9 := by
      funext c
      have : (Str.ofString "-\t").cps = #[45, 9] := by decide +kernel
      rw [this]; simp [Array.contains, BEq.comm]
    rw [c1, c2]
  | succ n =>
    have hlt : i < z.cps.size := by show i < z.length; omega
    refine wpAny_pyNext_ascii_item (s := { s with heap := h', toks := tk }) hit (c := z.cps[i]) (by simp [hlt]) fun h4 hit4 hs4 => ?_
    have F4 := fr_walk F' hs4.extBut hLJ hJ0
    obtain ⟨o4, ho4, hc4, hd4⟩ := hit4
    have N4 : News s.heap L h4 [(J, o4)] := fun p hp => by
      obtain rfl := List.mem_singleton.mp hp
      exact ⟨ho4, Ne.symm hLJ, hJ0⟩
    refine wpAny_assign_Name (stN (s := ⟨h4, _, _, _, _⟩) F4 N4 (fun h5 F5 N5 => ?_) rfl rfl)
    have hσl : σ.length ≤ 100000 := by
      rw [← tl_length, hσ, List.length_reverse]
      have := hpl (((tl z).take i).map mc) []
      rw [List.length_map, List.length_take, tl_length] at this
      simp only [List.length_nil] at this; omega
    refine clean_turn (c := z.cps[i]) (τ := (((tl z).take i).map mc).foldl pst []) (σ := σ) (s := ⟨h5, _, _, _, _⟩) F5 N5 (if_pos rfl) ((if_neg (by decide)).trans hm') hσ hσl rfl rfl rfl fun σ' t2 h6 tk6 m6 F6 N6 hm6 hσ6 => ?_
    refine ⟨n, Nat.lt_succ_self _, i + 1, h6, tk6, m6, o4, σ', t2, rfl, by omega, F6, N6, hc4, hd4, hm6, ?_⟩
    rw [hσ6]
    have hi' : i < (tl z).length := by rw [tl_length]; exact hlt
    have : (tl z).take (i + 1) = (tl z).take i ++ [z.cps[i]] := by
      rw [List.take_succ_eq_append_getElem hi']; rfl
    rw [this, List.map_append, List.foldl_append]; rfl
end
end Mine
end
section
/-! part P9 -/
open PySem PySem.W PyProof.Rows PySem.Spec
set_option maxRecDepth 100000
namespace Mine
theorem kfill9 : (PySem.Challenge.rw_mr0080_01 = PySem.Challenge.rw_mr0080_01) ∧ (hd.heap_39 = hd.heap_39) := by
  k_fill; exact ⟨rfl, rfl⟩
abbrev nName : Str := Str.ofString "name"
theorem op_len (a b : List Nat) : (op a b).length ≤ a.length + 1 + b.length := by
  unfold op; split <;> simp <;> omega
theorem bne_nil (x : Str) : (x != Str.ofString "") = decide (tl x ≠ []) := by
  rw [bne_tl, show tl (Str.ofString "") = [] from by decide +kernel]
  cases tl x <;> simp [bne]
section
variable {prog : Program} {w : World} {A : Around} {E : Value → Shared → Prop} {s : Shared} {cn : Str} {cs : Scope} {L a : Addr} {cd : Value} {h₀ : Heap} {m : Str → Option Value} {news : List (Addr × Obj)}
/-- one turn of _law_joined's loop -/
theorem joined_turn {σ x : Str} {t t' : Tok} {k1 k2 k3 k4 k5 : Nat} {r1 r2 r3 r4 r5 r6 r7 r8 r9 r10 r11 r12 r13 r14 r15 r16 r17 r18 r19 r20 r21 r22 r23 : Pos}
    {Q : Flow → Shared → Prop} (F : Fr h₀ L s.heap m) (N : News h₀ L s.heap news) (hm : m nName = some (.str x t)) (ht : m nTold = some (.str σ t')) (hl : σ.length ≤ 100000) (hlx : x.length ≤ 100000)
    (hk : cs.kind = .function) (hs : (envOf cn cs L a cd).kindOf nName = some .local) (hv : (envOf cn cs L a cd).kindOf nTold = some .local)
    (h : ∀ σ' t2 h' tk m', Fr h₀ L h' m' → News h₀ L h' news → m' nTold = some (.str σ' t2) → tl σ' = op (tl σ) (tl x) → Q .next { s with heap := h', toks := tk }) :
    wpAny (model prog w) A (execs [
      .If (.BoolOp .And [.Compare (.Name nTold r1) [.NotEq] [.Constant (.str (Str.ofString "")) k1 r2] r3, .Compare (.Name nName r4) [.NotEq] [.Constant (.str (Str.ofString "")) k2 r5] r6,
          .Compare (.Subscript (.Name nName r7) (.Constant (.int 0) k3 r8) r9) [.NotEq] [.Constant (.str dash) k4 r10] r11] r12)
        [.Assign [.Name nTold r13] (.BinOp (.Name nTold r14) .Add (.Constant (.str dash) k5 r15) r16) r17] [] r18,
      .Assign [.Name nTold r19] (.BinOp (.Name nTold r20) .Add (.Name nName r21) r22) r23] (envOf cn cs L a cd)) Q E s := by
  have hne : nName ≠ nTold := by decide
  -- the last statement
  have last : ∀ (s2 : Shared) (m2 : Str → Option Value) (σ2 : Str) (t2 : Tok), (∃ h' tk, s2 = { s with heap := h', toks := tk }) → Fr h₀ L s2.heap m2 → News h₀ L s2.heap news → m2 nTold = some (.str σ2 t2) → m2 nName = some (.str x t) →
      tl σ2 ++ tl x = op (tl σ) (tl x) → σ2.length ≤ 1000000 →
      wpAny (model prog w) A (execs [.Assign [.Name nTold r19] (.BinOp (.Name nTold r20) .Add (.Name nName r21) r22) r23] (envOf cn cs L a cd)) Q E s2 := by
    rintro s2 m2 σ2 t2 ⟨h', tk', rfl⟩ F2 N2 hm2 hn2 hσ2 hl2
    refine wpAny_execs_cons (wpAny_Assign_Name (wpAny_BinOp (ld F2 hm2 ?_ hk hv (by decide))))
    refine ld F2 hn2 ?_ hk hs (by decide)
    refine SBL.add (fun t3 k3 _ => ?_) (by rw [sizeLine_eq]; omega)
    refine stN (s := { s with heap := h', toks := k3 }) F2 N2 (fun h5 F5 N5 => ?_) hk hv
    refine wpAny_execs_nil ?_
    refine h (σ2 ++ x) t3 h5 _ _ F5 N5 (put_same _ _ _) ?_
    show (σ2.cps ++ x.cps).toList = _
    rw [Array.toList_append]; exact hσ2
  have same : ∀ (s2 : Shared), (∃ h' tk, s2 = { s with heap := h', toks := tk }) → Fr h₀ L s2.heap m → News h₀ L s2.heap news → ¬ (tl σ ≠ [] ∧ tl x ≠ [] ∧ (tl x).head? ≠ some 45) →
      wpAny (model prog w) A (execs [] (envOf cn cs L a cd)) (fun f s' => match f with
        | .next => wpAny (model prog w) A (execs [.Assign [.Name nTold r19] (.BinOp (.Name nTold r20) .Add (.Name nName r21) r22) r23] (envOf cn cs L a cd)) Q E s'
        | f => Q f s') E s2 := fun s2 hs2 F2 N2 hn =>
    wpAny_execs_nil (last s2 m σ t' hs2 F2 N2 ht hm (by unfold op; rw [if_neg hn]) (by omega))
  refine wpAny_execs_cons (wpAny_If (wpAny_isTrue_BoolOp (wpAny_allTrue_And_cons (wpAny_isTrue_Compare1 ?_))))
  refine ld F ht ?_ hk hv (by decide)
  refine Calls.Constant_str (PyProof.Rows.ne_str (wpAny_truthy_bool ?_))
  rw [bne_nil]
  by_cases h1 : tl σ = []
  · rw [if_neg (by simp [h1])]
    rw [if_neg Bool.false_ne_true]
    exact same _ ⟨_, _, rfl⟩ F N (fun q => q.1 h1)
  · rw [if_pos (by simp [h1])]
    refine wpAny_allTrue_And_cons (wpAny_isTrue_Compare1 ?_)
    refine ld (s := { s with toks := s.toks + 1 }) F hm ?_ hk hs (by decide)
    refine Calls.Constant_str (PyProof.Rows.ne_str (wpAny_truthy_bool ?_))
    rw [bne_nil]
    by_cases h2 : tl x = []
    · rw [if_neg (by simp [h2])]
      rw [if_neg Bool.false_ne_true]
      exact same _ ⟨_, _, rfl⟩ F N (fun q => q.2.1 h2)
    · rw [if_pos (by simp [h2])]
      refine wpAny_allTrue_And_cons (wpAny_isTrue_Compare1 ?_)
      have hx0 : 0 < x.length := by
        rw [← tl_length]; exact List.length_pos_iff.mpr h2
      refine Subscript_ (ld (s := { s with toks := s.toks + 1 + 1 }) F hm ?_ hk hs (by decide))
      refine wpAny_Constant_int ?_
      refine item_str (by decide) (by omega) (by omega) (fun _ => ?_)
      refine Calls.Constant_str (PyProof.Rows.ne_str (wpAny_truthy_bool ?_))
      have hi : tl (Txt.item x 0) = ((tl x).head?).toList := by
        show [(Txt.charAt x 0).getD 0] = _
        unfold Txt.charAt
        have : seqIndex? 0 x.length = some 0 := by
          unfold seqIndex?; simp; omega
        rw [this]
        show [(x.cps[0]?).getD 0] = _
        have e : x.cps[0]? = (tl x).head? := by rw [List.head?_eq_getElem?]; simp [tl]
        rw [e]
        cases q : tl x with
        | nil => exact absurd q h2
        | cons b r => rfl
      have e3 : (Txt.item x 0 != dash) = decide ((tl x).head? ≠ some 45) := by
        rw [bne_tl, hi, dash_tl]
        cases q : tl x with
        | nil => exact absurd q h2
        | cons b r => by_cases hb : b = 45 <;> simp [hb, bne]
      rw [e3]
      by_cases h3 : (tl x).head? = some 45
      · rw [if_neg (by simp [h3])]
        rw [if_neg Bool.false_ne_true]
        exact same _ ⟨_, _, rfl⟩ F N (fun q => q.2.2 h3)
      · rw [if_pos (by simp [h3])]
        refine wpAny_allTrue_And_nil ?_
        rw [if_pos rfl]
        refine wpAny_execs_cons (wpAny_Assign_Name (wpAny_BinOp (ld (s := ⟨s.heap, _, _, _, _⟩) F ht ?_ hk hv (by decide))))
        refine Calls.Constant_str ?_
        have hd1 : dash.length = 1 := by decide +kernel
        refine SBL.add (fun t3 k3 _ => ?_) (by rw [sizeLine_eq]; omega)
        refine stN (s := ⟨s.heap, _, _, k3, _⟩) F N (fun h5 F5 N5 => ?_) hk hv
        refine wpAny_execs_nil ?_
        refine last _ _ (σ ++ dash) t3 ⟨_, _, rfl⟩ F5 N5 (put_same _ _ _) ((put_other _ _ hne).trans hm) ?_ (by rw [Str.length_append]; omega)
        show (σ.cps ++ dash.cps).toList ++ tl x = _
        rw [Array.toList_append]
        show tl σ ++ tl dash ++ tl x = _
        rw [dash_tl]
        unfold op
        rw [if_pos ⟨h1, h2, h3⟩]; simp
end
theorem fold_op_len : ∀ (l : List (List Nat)) (a : List Nat) (n : Nat), (∀ x ∈ l, x.length ≤ n) → (l.foldl op a).length ≤ a.length + l.length * (n + 1)
  | [], a, n, _ => by simp
  | x :: r, a, n, h => by
    have h1 := fold_op_len r (op a x) n fun y hy => h y (.tail _ hy)
    have h2 := op_len a x
    have h3 := h x (.head _)
    rw [List.foldl_cons, List.length_cons, Nat.add_mul, Nat.one_mul]; omega
section
variable {prog : Program} {w : World} {A : Around} {E : Value → Shared → Prop} {s : Shared} {mg mb : Str → Option Value} {bm : Addr} {ob : Obj} {H0 : Heap}
theorem joined_spec (W : Wd w mg mb bm ob H0) {l : Addr} {vs : List Value} {xs : List Str} {Q : Value → Shared → Prop} (G : Good H0 s) (hl : s.heap.IsList l vs.toArray) (hvs : StrsAre vs xs) (hlen : ∀ x ∈ xs, x.length ≤ 5000) (hn : xs.length ≤ 10)
    (hh : A.handled = none) (hroom : A.depth < recursionLimit)
    (hQ : ∀ y t' s', Same H0 s s' → tl y = jn (xs.map tl) → Q (.str y t') s') :
    wpAny (model prog w) A (call (.ref 44) [.ref l]) Q E s := by
  refine wpAny_call ?_
  have X := W.X
  have ho := G.keep _ _ (X 44 _ (by k_is))
  refine call_plain hroom ho rfl (W.lim.keeps G.keep) ((codeRec_of X (by k_is)).keeps G.keep) rfl (locs rfl) (fun h1 F => ?_)
  clear ho
  have hvl := hvs.length
  generalize hL : s.heap.objs.size = L at *
  refine wpAny_execs_cons (wpAny_Assign_Name (Calls.Constant_str ?_))
  refine stN F News.nil (fun h2 F2 _ => ?_) rfl rfl
  refine wpAny_execs_cons (wpAny_For ?_)
  refine ld F2 (v := .ref l) rfl ?_ rfl rfl (by decide)
  have hlL : l < s.heap.objs.size := by obtain ⟨o, e, _⟩ := hl; exact Heap.lt_size e
  have keepl : ∀ {h' : Heap} {m' : Str → Option Value}, Fr s.heap L h' m' → h'.IsList l vs.toArray := fun F' => by obtain ⟨o, e, r⟩ := hl; exact ⟨o, F'.keep _ _ e, r⟩
  refine wpAny_pyIter_list (s := ⟨h2, _, _, _, _⟩) (keepl F2) ?_
  have hJL := ltA (a := L) (b := h2.objs.size) F2.ns.lt
  have hJ0 : s.heap.get? h2.objs.size = none := Heap.get?_none_of_le (Nat.le_of_lt (by rw [hL]; exact hJL))
  have F3 := F2.push { cls := .type "list_iterator", data := .fields #[.ref l, .int 0 0] }
  have N3 := News.push F2 News.nil { cls := .type "list_iterator", data := .fields #[.ref l, .int 0 0] }
  generalize hJ : h2.objs.size = J at *
  have hLJ : L ≠ J := Nat.ne_of_lt hJL
  refine codeAny_forLoop (fun n s' => ∃ i h' tk m' oJ σ t', s' = { s with heap := h', toks := tk } ∧ i + n = xs.length ∧ Fr s.heap L h' m' ∧ News s.heap L h' [(J, oJ)] ∧ oJ.cls = .type "list_iterator" ∧ oJ.data = .fields #[.ref l, .int i 0] ∧
      m' nTold = some (.str σ t') ∧ tl σ = jn ((xs.take i).map tl)) ?_ xs.length
    ⟨0, _, _, _, _, Str.ofString "", _, rfl, Nat.zero_add _, F3, N3, rfl, rfl, if_pos rfl, by rw [List.take_zero]; decide +kernel⟩
  rintro n s' ⟨i, h', tk, m', oJ, σ, t', rfl, hi, F', N', hc, hd, hm', hσ⟩
  have hit : h'.IsListIter J l i := ⟨oJ, (N' _ (.head _)).1, hc, hd⟩
  cases n with
  | zero =>
    have hnn : vs.toArray[i]? = none := by simp; omega
    refine wpAny_pyNext_list_end (s := { s with heap := h', toks := tk }) hh hit (keepl F') hnn fun h4 hx4 => ?_
    have F4 := fr_walk F' hx4 hLJ hJ0
    refine wpAny_execs_nil ?_
    refine wpAny_execs_cons (wpAny_Return_some ?_)
    refine ld F4 hm' ?_ rfl rfl (by decide)
    refine hQ _ t' { s with heap := h4, toks := tk } ⟨fun b o e => F4.keep b o e, Nat.le_of_lt (by rw [hL]; exact F4.ns.lt), rfl, rfl⟩ ?_
    rw [hσ, List.take_of_length_le (by omega)]
  | succ n =>
    have hlt : i < xs.length := by omega
    obtain ⟨tx, htx⟩ := hvs.get i xs[i] (List.getElem?_eq_getElem hlt)
    refine wpAny_pyNext_list_item (s := { s with heap := h', toks := tk }) hit (keepl F') (x := .str xs[i] tx) (by simpa using htx) fun h4 hit4 hs4 => ?_
    have F4 := fr_walk F' hs4.extBut hLJ hJ0
    obtain ⟨o4, ho4, hc4, hd4⟩ := hit4
    have N4 : News s.heap L h4 [(J, o4)] := fun p hp => by
      obtain rfl := List.mem_singleton.mp hp
      exact ⟨ho4, Ne.symm hLJ, hJ0⟩
    refine wpAny_assign_Name (stN (s := ⟨h4, _, _, _, _⟩) F4 N4 (fun h5 F5 N5 => ?_) rfl rfl)
    have hσl : σ.length ≤ 100000 := by
      rw [← tl_length, hσ]
      have h9 := fold_op_len ((xs.take i).map tl) [] 5000 (fun y hy => by
        obtain ⟨z, hz, rfl⟩ := List.mem_map.mp hy
        rw [tl_length]; exact hlen z (List.mem_of_mem_take hz))
      have h10 : ((xs.take i).map tl).length ≤ 10 := by rw [List.length_map, List.length_take]; omega
      have h11 := Nat.mul_le_mul_right 5001 h10
      show (((xs.take i).map tl).foldl op []).length ≤ 100000
      simp only [List.length_nil] at h9; omega
    have hxl : xs[i].length ≤ 100000 := Nat.le_trans (hlen _ (List.getElem_mem hlt)) (by omega)
    refine joined_turn (x := xs[i]) (σ := σ) (s := ⟨h5, _, _, _, _⟩) F5 N5 (if_pos rfl) ((if_neg (by decide)).trans hm') hσl hxl rfl rfl rfl fun σ' t2 h6 tk6 m6 F6 N6 hm6 hσ6 => ?_
    refine ⟨n, Nat.lt_succ_self _, i + 1, h6, tk6, m6, o4, σ', t2, rfl, by omega, F6, N6, hc4, hd4, hm6, ?_⟩
    rw [hσ6, hσ, List.take_succ_eq_append_getElem hlt, List.map_append]
    unfold jn
    rw [List.foldl_append]; rfl
end
end Mine
end
section
/-! part P10 -/
open PySem PySem.W PyProof.Rows PySem.Spec
set_option maxRecDepth 100000
namespace Mine
theorem kfill10 : (PySem.Challenge.rw_mr0080_01 = PySem.Challenge.rw_mr0080_01) ∧ (hd.heap_39 = hd.heap_39) := by
  k_fill; exact ⟨rfl, rfl⟩
def run (fn : Nat → List Nat → List Nat) : Nat → Nat → List Nat → List Nat
  | _, 0, x => x
  | i, k + 1, x => run fn (i + 1) k (fn i x)
/-- what the function handed to reduce does -/
structure FOk (prog : Program) (w : World) (H0 hb : Heap) (f : Addr) (P : Nat → Value → Prop) (fn : Nat → List Nat → List Nat) (I : Nat → List Nat → Prop) : Prop where
  at_ : FnAt f hb
  ne : f ≠ 16
  call : ∀ (A : Around) (s : Shared) (i : Nat) (acc : Str) (t : Tok) (e : Value) (Q : Value → Shared → Prop) (E : Value → Shared → Prop), A.handled = none → A.depth + 3 < recursionLimit → Kp hb s.heap → Good H0 s → P i e → I i (tl acc) →
     (∀ y t' s', Good H0 s' → Kp s.heap s'.heap → s.heap.objs.size ≤ s'.heap.objs.size → s'.os = s.os → tl y = fn i (tl acc) → I (i + 1) (tl y) → Q (.str y t') s') → wpAny (model prog w) A (PySem.call (.ref f) [.str acc t, e]) Q E s
theorem fnAt_kp {hb h : Heap} {f : Addr} (x : FnAt f hb) (hf : f ≠ 16) (k : Kp hb h) : FnAt f h := by
  obtain ⟨oc, od, fd, sl, e⟩ := x
  exact ⟨oc, od, fd, sl, k _ _ hf e⟩
theorem Kp.trans {a b c : Heap} (x : Kp a b) (y : Kp b c) : Kp a c := fun d o hd e => y d o hd (x d o hd e)
theorem Kp.of {a b : Heap} (x : ∀ d o, a.get? d = some o → b.get? d = some o) : Kp a b := fun d o _ e => x d o e
theorem fr_kp {h₀ h h' : Heap} {L : Addr} {m : Str → Option Value} (F : Fr h₀ L h m) (h16 : h₀.get? 16 = none) (hL : L ≠ 16) (k : Kp h h') : Fr h₀ L h' m :=
  ⟨F.ns.at fun o e => k L o hL e, fun b o e => k b o (fun q => by rw [q, h16] at e; cases e) (F.keep b o e), F.above⟩
theorem Wd.codeHd {w : World} {mg mb : Str → Option Value} {bm : Addr} {ob : Obj} {H0 : Heap} (W : Wd w mg mb bm ob H0) {h : Heap} (k : ∀ b o, H0.get? b = some o → h.get? b = some o) : CodeHd h 20 16 := codeHd_of_K (W.X.keeps k) (by kernel_rfl)
/-- a change elsewhere leaves all well -/
theorem Good.but {w : World} {mg mb : Str → Option Value} {bm : Addr} {ob : Obj} {H0 : Heap} (W : Wd w mg mb bm ob H0) {s s' : Shared} {wr : List Addr} (G : Good H0 s) (hw : ∀ b ∈ wr, H0.get? b = none) (h16 : 16 ∉ wr)
    (k : ∀ b o, b ∉ wr → s.heap.get? b = some o → s'.heap.get? b = some o) (hg : AllBare s'.gens) : Good H0 s' := by
  have kk : ∀ b o, H0.get? b = some o → s'.heap.get? b = some o := fun b o e => k b o (fun q => by rw [hw b q] at e; cases e) (G.keep b o e)
  obtain ⟨ps, C, hP, ht⟩ := G.tab
  exact ⟨kk, ⟨ps, W.codeHd kk, k _ _ h16 hP, ht⟩, hg⟩
section
variable {prog : Program} {w : World} {A : Around} {E : Value → Shared → Prop} {s : Shared} {mg mb : Str → Option Value} {bm : Addr} {ob : Obj} {H0 : Heap} {cn : Str} {cs : Scope} {L a : Addr} {cd : Value} {h₀ : Heap} {m : Str → Option Value}
/-- a store into a local name, with all that stays -/
theorem stK {x : Str} {v : Value} {Q : Unit → Shared → Prop} (F : Fr h₀ L s.heap m)
    (h : ∀ h', Fr h₀ L h' (fun y => if y = x then some v else m y) → Heap.SameBut L s.heap h' → Q () { s with heap := h', toks := s.toks + 1 })
    (hk : cs.kind = .function := by rfl) (hl : (envOf cn cs L a cd).kindOf x = some .local := by rfl) :
    wpAny (model prog w) A (storeName (envOf cn cs L a cd) x v) Q E s :=
  wpAny_storeName_local hl F.ns (fun h' hn hs => h h' (F.set hn hs) hs)
    (by show (cs.kind == .class || (cs.kind == .module && L != mainGlobals)) = false; rw [hk]; rfl)
abbrev nIt : Str := Str.ofString "it"
abbrev nVal : Str := Str.ofString "value"
abbrev nEl : Str := Str.ofString "element"
abbrev nFun : Str := Str.ofString "function"
theorem red_tail (W : Wd w mg mb bm ob H0) {J f : Addr} {fp wr : List Addr} {n : Nat} {P : Nat → Value → Prop} {St : Nat → Heap → Prop} {hb : Heap} {fn : Nat → List Nat → List Nat} {I : Nat → List Nat → Prop}
    {r1 r2 r3 r4 r5 r6 r7 r8 r9 r10 r11 : Pos} {i : Nat} {acc : Str} {t : Tok} {Q : Flow → Shared → Prop}
    (Wk : Walks prog w A J fp wr n P St) (FO : FOk prog w H0 hb f P fn I) (F : Fr h₀ L s.heap m) (G : Good H0 s) (h16 : h₀.get? 16 = none) (hL16 : L ≠ 16) (kH : ∀ b o, H0.get? b = some o → h₀.get? b = some o)
    (hb0 : ∀ b o, b ≠ 16 → hb.get? b = some o → h₀.get? b = some o) (hfp : 16 ∉ fp) (hLfp : L ∉ fp) (hwr : ∀ b ∈ wr, h₀.get? b = none) (st : St i s.heap) (hi : i ≤ n)
    (hm1 : m nIt = some (.ref J)) (hm2 : m nFun = some (.ref f)) (hm3 : m nVal = some (.str acc t)) (hI : I i (tl acc)) (hh : A.handled = none) (hroom : A.depth + 3 < recursionLimit)
    (hk : cs.kind = .function) (hl1 : (envOf cn cs L a cd).kindOf nIt = some .local) (hl2 : (envOf cn cs L a cd).kindOf nFun = some .local) (hl3 : (envOf cn cs L a cd).kindOf nVal = some .local) (hl4 : (envOf cn cs L a cd).kindOf nEl = some .local)
    (hQ : ∀ y t' s', Good H0 s' → (∀ b o, h₀.get? b = some o → s'.heap.get? b = some o) → L < s'.heap.objs.size → s'.os = s.os → tl y = run fn i (n - i) (tl acc) → I n (tl y) → Q (.ret (.str y t')) s') :
    wpAny (model prog w) A (execs [
      .For (.Name nEl r1) (.Name nIt r2) [.Assign [.Name nVal r3] (.Call (.Name nFun r4) [.Name nVal r5, .Name nEl r6] [] r7) r8] [] r9,
      .Return (some (.Name nVal r10)) r11] (envOf cn cs L a cd)) Q E s := by
  have hwn : ∀ {wr' : List Addr}, (∀ b ∈ wr', h₀.get? b = none) → ∀ b ∈ wr', H0.get? b = none := fun hw b hb' => by
    cases e : H0.get? b with
    | none => rfl
    | some o => have q := hw b hb'; rw [kH b o e] at q; cases q
  have hL0 : h₀.get? L = none := Heap.get?_none_of_le F.above
  refine wpAny_execs_cons (wpAny_For ?_)
  refine ld F hm1 ?_ hk hl1 (by decide)
  refine Wk.self i s _ _ st ?_
  refine codeAny_forLoop (fun k s' => ∃ j acc' t' m', j + k = n ∧ St j s'.heap ∧ Fr h₀ L s'.heap m' ∧ Good H0 s' ∧ s'.os = s.os ∧ m' nIt = some (.ref J) ∧ m' nFun = some (.ref f) ∧ m' nVal = some (.str acc' t') ∧ I j (tl acc') ∧ run fn j k (tl acc') = run fn i (n - i) (tl acc)) ?_ (n - i)
    ⟨i, acc, t, m, by omega, st, F, G, rfl, hm1, hm2, hm3, hI, rfl⟩
  rintro k s' ⟨j, acc', t', m', hj, st', F', G', hos', hm1', hm2', hm3', hI', hrun⟩
  cases k with
  | zero =>
    obtain rfl : j = n := by omega
    refine Wk.done s' _ _ st' fun h4 tk hk4 => ?_
    have F4 : Fr h₀ L h4 m' := ⟨F'.ns.at fun o e => hk4 L o (fun q => hLfp (Wk.sub _ q)) e, fun b o e => hk4 b o (fun q => by rw [hwr b q] at e; cases e) (F'.keep b o e), F'.above⟩
    have G4 : Good H0 { s' with heap := h4, toks := tk } := Good.but W G' (hwn hwr) (fun q => hfp (Wk.sub _ q)) hk4 G'.bare
    refine wpAny_execs_nil ?_
    refine wpAny_execs_cons (wpAny_Return_some ?_)
    refine ld (s := { s' with heap := h4, toks := tk }) F4 hm3' ?_ hk hl3 (by decide)
    exact hQ acc' t' _ G4 F4.keep F4.ns.lt hos' hrun hI'
  | succ k =>
    refine Wk.item j s' _ _ (by omega) st' fun v h4 tk hP st4 hk4 => ?_
    have F4 : Fr h₀ L h4 m' := ⟨F'.ns.at fun o e => hk4 L o (fun q => hLfp (Wk.sub _ q)) e, fun b o e => hk4 b o (fun q => by rw [hwr b q] at e; cases e) (F'.keep b o e), F'.above⟩
    have G4 : Good H0 { s' with heap := h4, toks := tk } := Good.but W G' (hwn hwr) (fun q => hfp (Wk.sub _ q)) hk4 G'.bare
    have hLw : ∀ b ∈ [L], h₀.get? b = none := fun b hb' => by rw [List.mem_singleton.mp hb']; exact hL0
    have h16L : 16 ∉ [L] := fun q => hL16 (List.mem_singleton.mp q).symm
    refine wpAny_assign_Name (stK (s := { s' with heap := h4, toks := tk }) F4 (fun h5 F5 S5 => ?_) hk hl4)
    have G5 : Good H0 { s' with heap := h5, toks := tk + 1 } := Good.but W G4 (hwn hLw) h16L (fun b o hb' e => S5.extBut b o (fun q => hb' (by simp [q])) e) G4.bare
    have st5 : St (j + 1) h5 := Wk.frame _ _ _ st4 fun b hb' o e => S5.extBut b o (fun q => hLfp (q ▸ hb')) e
    refine wpAny_execs_cons (wpAny_Assign_Name (Call_ ?_))
    refine ld (s := { s' with heap := h5, toks := tk + 1 }) F5 ((if_neg (by decide)).trans hm2') ?_ hk hl2 (by decide)
    have hKp : Kp hb h5 := fun b o hb' e => F5.keep b o (hb0 b o hb' e)
    have hfn : FnAt f h5 := fnAt_kp FO.at_ FO.ne hKp
    refine callWith_F (s := { s' with heap := h5, toks := tk + 1 }) hfn ?_
    refine spliced_more (ld (s := { s' with heap := h5, toks := tk + 1 }) F5 ((if_neg (by decide)).trans hm3') ?_ hk hl3 (by decide))
    refine spliced_more (ld (s := { s' with heap := h5, toks := tk + 1 }) F5 (if_pos rfl) ?_ hk hl4 (by decide))
    refine spliced_none ⟨hfn, ?_⟩
    refine FO.call _ _ j acc' t' v _ _ hh hroom hKp G5 hP hI' fun y t2 s6 G6 k6 z6 o6 e6 I6 => ?_
    have F6 := fr_kp F5 h16 hL16 k6
    have st6 : St (j + 1) s6.heap := Wk.frame _ _ _ st5 fun b hb' o e => k6 b o (fun q => hfp (q ▸ hb')) e
    refine stK F6 (fun h7 F7 S7 => ?_) hk hl3
    refine wpAny_execs_nil ?_
    refine ⟨k, Nat.lt_succ_self _, j + 1, y, t2, _, by omega, ?_, F7, ?_, o6.trans hos', ?_, ?_, if_pos rfl, I6, ?_⟩
    · exact Wk.frame _ _ _ st6 fun b hb' o e => S7.extBut b o (fun q => hLfp (q ▸ hb')) e
    · exact Good.but W G6 (hwn hLw) h16L (fun b o hb' e => S7.extBut b o (fun q => hb' (by simp [q])) e) G6.bare
    · exact (if_neg (by decide)).trans ((if_neg (by decide)).trans hm1')
    · exact (if_neg (by decide)).trans ((if_neg (by decide)).trans hm2')
    · rw [← hrun, e6]; rfl
end
end Mine
end
section
/-! part P11 -/
open PySem PySem.W PyProof.Rows PySem.Spec
set_option maxRecDepth 100000
namespace Mine
theorem kfill11 : (PySem.Challenge.rw_mr0080_01 = PySem.Challenge.rw_mr0080_01) ∧ (hd.heap_39 = hd.heap_39) := by
  k_fill; exact ⟨rfl, rfl⟩
section
variable {prog : Program} {w : World} {A : Around} {E : Value → Shared → Prop} {s : Shared} {mg mb : Str → Option Value} {bm : Addr} {ob : Obj} {H0 : Heap}
theorem call_iter {v : Value} {Q : Value → Shared → Prop} (h : wpAny (model prog w) A.in1 (pyIter v) Q E s) : wpAny (model prog w) A (call (.builtin "iter") [v]) Q E s := by
  refine Calls.call_function_entry (by decide +kernel) (by decide +kernel) kdk_entry_iter (kdk_args_iter _) ?_
  unfold Builtin.«iter»
  refine wpAny_bind (m := someArgs "iter" 1 2 _) (wpAny_of_eq (a := [v]) (by first | rfl | kernel_rfl!) ?_)
  show wpAny _ _ (pyIter v >>= _) _ _ _
  exact wpAny_bind (wpAny_mono h (fun v' s' q => wpAny_pure ⟨_, rfl, q⟩) fun _ _ x => x)
theorem call_next_list {it l : Addr} {i : Nat} {items : Array Value} {x : Value} {Q : Value → Shared → Prop} (hit : s.heap.IsListIter it l i) (hl : s.heap.IsList l items) (hx : items[i]? = some x)
    (hQ : ∀ h', h'.IsListIter it l (i + 1) → Heap.SameBut it s.heap h' → Q x { s with heap := h' }) : wpAny (model prog w) A (call (.builtin "next") [.ref it]) Q E s := by
  obtain ⟨o, ho, hc, hd⟩ := id hit
  obtain ⟨ol, hol, _, nl, hdl⟩ := hl
  refine Calls.call_function_entry (by decide +kernel) (by decide +kernel) kdk_entry_next (kdk_args_next _) ?_
  unfold Builtin.«next»
  refine wpAny_bind (m := someArgs "next" 1 2 _) (wpAny_of_eq (a := [Value.ref it]) (by first | rfl | kernel_rfl!) ?_)
  dsimp only
  refine wpAny_bind (wpAny_specialOf (name := Str.ofString "__next__") hit.typeIs slot_listiter_next.lookup ?_)
  refine wpAny_ite_split (fun hab => absurd hab (by decide)) (fun _ => ?_)
  refine wpAny_bind (wpAny_callSpecial?_slot (name := Str.ofString "__next__") hit.typeIs slot_listiter_next (wpAny_call_entry slot_listiter_next hit.typeIs entry_listiter_next ?_ (args_listiter_next _)))
  show wpAny _ _ (field (.ref it) 0 >>= _) _ _ s
  refine wpAny_bind (wpAny_field ho hd (x := .ref l) rfl ?_)
  show wpAny _ _ (if (Value.ref l == Value.none) = true then _ else _) _ _ s
  rw [if_neg (show ¬ ((Value.ref l == Value.none) = true) from Bool.false_ne_true)]
  show wpAny _ _ (field (.ref it) 1 >>= _) _ _ s
  refine wpAny_bind (wpAny_field ho hd (x := .int i 0) rfl ?_)
  show wpAny _ _ (seqItems? (.ref l) >>= _) _ _ s
  refine wpAny_bind (wpAny_seqItems hol hdl ?_)
  simp only [Int.toNat_natCast, hx]
  refine wpAny_bind (wpAny_setField ho hd (by simp) (wpAny_pure ⟨x, rfl, wpAny_pure ⟨_, rfl, hQ _ ?_ (Heap.SameBut.update ..)⟩⟩))
  exact ⟨_, Heap.get?_update_self _ ho (Obj.isFreed_of_fields (Obj.data_mapFields hd _)), (Obj.cls_mapFields ..).trans hc, by
    rw [Obj.data_mapFields hd]; simp [rawInt]⟩
/-- reduce(f, range, text) -/
theorem reduce_range (W : Wd w mg mb bm ob H0) {f r : Addr} {n : Nat} {t1 t2 t3 : Tok} {x : Str} {t : Tok} {P : Nat → Value → Prop} {fn : Nat → List Nat → List Nat} {I : Nat → List Nat → Prop} {Q : Value → Shared → Prop}
    (G : Good H0 s) (FO : FOk prog w H0 s.heap f P fn I) (hP : ∀ (i : Nat) t, P i (.int i t)) (hr : IsRange s.heap r 0 n 1 t1 t2 t3) (hsmall : Builtin.Range.small 0 n 1 = true) (hsz : Builtin.Range.rangeSize 0 n 1 = n) (hI : I 0 (tl x)) (hh : A.handled = none) (hroom : A.depth + 4 < recursionLimit)
    (hQ : ∀ y t' s', Good H0 s' → Kp s.heap s'.heap → s.heap.objs.size ≤ s'.heap.objs.size → s'.os = s.os → tl y = run fn 0 n (tl x) → I n (tl y) → Q (.str y t') s') :
    wpAny (model prog w) A (call (.ref 30) [.ref f, .ref r, .str x t]) Q E s := by
  refine wpAny_call ?_
  have X := W.X
  have ho := G.keep _ _ (X 30 _ (by k_is))
  refine call_plainD (by omega) ho rfl (W.lim.keeps G.keep) ((codeRec_of X (by k_is)).keeps G.keep) (kp_binds (X.keeps G.keep) (fun _ => rfl)) (locs rfl) (fun h1 F0 => ?_)
  clear ho
  obtain ⟨ps, C, hP16, ht⟩ := G.tab
  have h16lt := ltA (a := 16) (b := s.heap.objs.size) (Heap.lt_size hP16)
  have n16 : ∀ b o, H0.get? b = some o → b ≠ 16 := fun b o e q => by rw [q, W.n16] at e; cases e
  have kH : ∀ b o, H0.get? b = some o → (s.heap.hide 16).get? b = some o := fun b o e => (Heap.hide_ne _ (n16 b o e)).trans (G.keep b o e)
  have F : Fr (s.heap.hide 16) s.heap.objs.size h1 _ := ⟨F0.ns, fun b o e => F0.keep b o (Heap.of_hide e), Nat.le_of_eq (Heap.hide_size _ 16)⟩
  have hb0 : ∀ b o, b ≠ 16 → s.heap.get? b = some o → (s.heap.hide 16).get? b = some o := fun b o hb e => (Heap.hide_ne _ hb).trans e
  have G1 : Good H0 { s with heap := h1, toks := s.toks + 3 } := ⟨fun b o e => F0.keep b o (G.keep b o e), ⟨ps, W.codeHd fun b o e => F0.keep b o (G.keep b o e), F0.keep _ _ hP16, ht⟩, G.bare⟩
  have hp16 : (s.heap.hide 16).get? 16 = none := Heap.hide_self _ 16
  have hrs : r ≠ 16 := fun q => by rw [q] at hr; unfold IsRange at hr; rw [hP16] at hr; cases hr
  have hr0 : (s.heap.hide 16).get? r = _ := hb0 _ _ hrs hr
  have hsz0 : (s.heap.hide 16).objs.size = s.heap.objs.size := Heap.hide_size _ 16
  have hL16 : s.heap.objs.size ≠ 16 := neA (by omega)
  have hin : ∀ (h : Heap), h.objs.size = h.objs.size := fun _ => rfl
  generalize hL : s.heap.objs.size = L at *
  generalize hh0 : s.heap.hide 16 = h0 at *
  have i1 : mg (Str.ofString "iter") = none := mg_none_of X W.g (by k_is)
  have i2 : mb (Str.ofString "iter") = some (.builtin "iter") := (W.bi _ (by decide)).trans (by decide +kernel)
  have i3 : mg (Str.ofString "_initial_missing") = some (.ref 22) := mg_of X W.g (by k_is)
  -- it = iter(sequence)
  refine wpAny_execs_cons (wpAny_Assign_Name (Call_ ?_))
  refine ld_builtin_at (s := ⟨h1, _, _, _, _⟩) F (W.g.keeps kH) i1 (W.b.keeps kH) i2 ?_ rfl rfl
  refine PyProof.Rows.callWith_builtin1 ?_
  refine spliced_more (ld (s := ⟨h1, _, _, _, _⟩) F (v := .ref r) rfl ?_ rfl rfl (by decide))
  refine spliced_none ?_
  refine call_iter ?_
  refine wpAny_pyIter_range (s := ⟨h1, _, _, _, _⟩) (F.keep _ _ hr0) hsmall ?_
  rw [hsz]
  have hJL := ltA (a := L) (b := h1.objs.size) F.ns.lt
  have hJ0 : h0.get? h1.objs.size = none := Heap.get?_none_of_le (Nat.le_of_lt (by rw [hsz0]; exact hJL))
  have F2 := F.push { cls := .type "range_iterator", data := .fields #[rawInt 0, rawInt n, rawInt 1] }
  have G2 : Good H0 ⟨h1.push { cls := .type "range_iterator", data := .fields #[rawInt 0, rawInt n, rawInt 1] }, s.gens, s.drawn, s.toks + 3, s.os⟩ := Good.but W (wr := []) G1 (fun _ h => nomatch h) (fun h => nomatch h) (fun b o _ e => Heap.get?_push_of_some _ e) G.bare
  have st2 : IsRangeIter (h1.push { cls := .type "range_iterator", data := .fields #[rawInt 0, rawInt n, rawInt 1] }) h1.objs.size (0 + ((0 : Nat) : Int) * 1) ((n : Int) - ((0 : Nat) : Int)) 1 := by
    have := Heap.get?_push_size h1 (o := { cls := .type "range_iterator", data := .fields #[rawInt 0, rawInt n, rawInt 1] }) rfl
    simpa using this
  dsimp only at F2 G2 st2 ⊢
  generalize h1.push { cls := .type "range_iterator", data := .fields #[rawInt 0, rawInt n, rawInt 1] } = h2 at *
  generalize hJ : h1.objs.size = J at *
  have hJ16 : J ≠ 16 := neA (by omega)
  have hLJ : L ≠ J := neA (by omega)
  refine stK (s := ⟨h2, _, _, _, _⟩) F2 (fun h3 F3 S3 => ?_) rfl rfl
  have hL0 : H0.get? L = none := by
    cases e : H0.get? L with
    | none => rfl
    | some o => have q := kH _ _ e; rw [Heap.get?_none_of_le F.above] at q; cases q
  have G3 : Good H0 ⟨h3, s.gens, s.drawn, s.toks + 3 + 1, s.os⟩ := Good.but W (wr := [L]) G2 (fun b hb => by rw [List.mem_singleton.mp hb]; exact hL0) (fun q => hL16 (List.mem_singleton.mp q).symm) (fun b o hb e => S3.extBut b o (fun q => hb (by simp [q])) e) G.bare
  have st3 : IsRangeIter h3 J (0 + ((0 : Nat) : Int) * 1) ((n : Int) - ((0 : Nat) : Int)) 1 := S3.extBut _ _ (Ne.symm hLJ) st2
  -- if initial is _initial_missing
  refine wpAny_execs_cons (wpAny_If (wpAny_isTrue_Compare1 ?_))
  refine ld (s := ⟨h3, _, _, _, _⟩) F3 (v := .str x t) ((if_neg (by decide)).trans rfl) ?_ rfl rfl (by decide)
  refine ld_global_at (s := ⟨h3, _, _, _, _⟩) F3 (W.g.keeps kH) i3 ?_ rfl rfl (by decide)
  refine wpAny_is_other rfl (by intro q; cases q) (wpAny_truthy_bool ?_)
  rw [if_neg Bool.false_ne_true]
  refine wpAny_execs_cons (wpAny_Assign_Name ?_)
  refine ld (s := ⟨h3, _, _, _, _⟩) F3 (v := .str x t) ((if_neg (by decide)).trans rfl) ?_ rfl rfl (by decide)
  refine stK (s := ⟨h3, _, _, _, _⟩) F3 (fun h4 F4 S4 => ?_) rfl rfl
  have G4 : Good H0 ⟨h4, s.gens, s.drawn, s.toks + 3 + 1 + 1, s.os⟩ := Good.but W (wr := [L]) G3 (fun b hb => by rw [List.mem_singleton.mp hb]; exact hL0) (fun q => hL16 (List.mem_singleton.mp q).symm) (fun b o hb e => S4.extBut b o (fun q => hb (by simp [q])) e) G.bare
  have st4 : IsRangeIter h4 J (0 + ((0 : Nat) : Int) * 1) ((n : Int) - ((0 : Nat) : Int)) 1 := S4.extBut _ _ (Ne.symm hLJ) st3
  refine wpAny_execs_nil ?_
  refine red_tail (s := ⟨h4, _, _, _, _⟩) (i := 0) (acc := x) (t := t) W (Walks.range (by exact hh) J 0 1 n) (P := fun i v => ∃ t, v = .int (0 + i * 1) t) (I := I) (fn := fn) (hb := s.heap) (f := f)
    ⟨FO.at_, FO.ne, fun A s i acc t e Q E h1 h2 h3 h4 h5 h6 h7 => FO.call A s i acc t e Q E h1 h2 h3 h4 (by obtain ⟨t, rfl⟩ := h5; have := hP i t; simpa using this) h6 h7⟩
    F4 G4 hp16 hL16 kH hb0 (fun q => hJ16 (List.mem_singleton.mp q).symm) (fun q => hLJ (List.mem_singleton.mp q)) (fun b hb => by rw [List.mem_singleton.mp hb]; exact hJ0) st4 (Nat.zero_le _)
    ((if_neg (by decide)).trans (if_pos rfl)) ((if_neg (by decide)).trans ((if_neg (by decide)).trans rfl)) (if_pos rfl) hI hh (by show A.depth + 1 + 3 < recursionLimit; omega) rfl rfl rfl rfl rfl
    fun y t' s' G' k' z' o' e' I' => hQ y t' s' G' (fun b o hb e => k' b o (hb0 b o hb e)) (Nat.le_of_lt z') o' e' I'
end
end Mine
end
section
/-! part P12 -/
open PySem PySem.W PyProof.Rows PySem.Spec
set_option maxRecDepth 100000
namespace Mine
theorem kfill12 : (PySem.Challenge.rw_mr0080_01 = PySem.Challenge.rw_mr0080_01) ∧ (hd.heap_39 = hd.heap_39) := by
  k_fill; exact ⟨rfl, rfl⟩
section
variable {prog : Program} {w : World} {A : Around} {E : Value → Shared → Prop} {s : Shared} {mg mb : Str → Option Value} {bm : Addr} {ob : Obj} {H0 : Heap}
/-- reduce(f, list) -/
theorem reduce_list (W : Wd w mg mb bm ob H0) {f l : Addr} {items : Array Value} {x : Str} {t : Tok} {P : Nat → Value → Prop} {fn : Nat → List Nat → List Nat} {I : Nat → List Nat → Prop} {Q : Value → Shared → Prop}
    (G : Good H0 s) (FO : FOk prog w H0 s.heap f P fn I) (hP : ∀ (i : Nat) v, items[i]? = some v → P i v) (hl : s.heap.IsList l items) (hx : items[0]? = some (.str x t)) (hI : I 1 (tl x)) (hh : A.handled = none) (hroom : A.depth + 4 < recursionLimit)
    (hQ : ∀ y t' s', Good H0 s' → Kp s.heap s'.heap → s.heap.objs.size ≤ s'.heap.objs.size → s'.os = s.os → tl y = run fn 1 (items.size - 1) (tl x) → I items.size (tl y) → Q (.str y t') s') :
    wpAny (model prog w) A (call (.ref 30) [.ref f, .ref l]) Q E s := by
  refine wpAny_call ?_
  have X := W.X
  have ho := G.keep _ _ (X 30 _ (by k_is))
  refine call_plainD (by omega) ho rfl (W.lim.keeps G.keep) ((codeRec_of X (by k_is)).keeps G.keep) (kp_binds (X.keeps G.keep) (fun _ => rfl)) (locs rfl) (fun h1 F0 => ?_)
  clear ho
  obtain ⟨ps, C, hP16, ht⟩ := G.tab
  have h16lt := ltA (a := 16) (b := s.heap.objs.size) (Heap.lt_size hP16)
  have n16 : ∀ b o, H0.get? b = some o → b ≠ 16 := fun b o e q => by rw [q, W.n16] at e; cases e
  have kH : ∀ b o, H0.get? b = some o → (s.heap.hide 16).get? b = some o := fun b o e => (Heap.hide_ne _ (n16 b o e)).trans (G.keep b o e)
  have F : Fr (s.heap.hide 16) s.heap.objs.size h1 _ := ⟨F0.ns, fun b o e => F0.keep b o (Heap.of_hide e), Nat.le_of_eq (Heap.hide_size _ 16)⟩
  have hb0 : ∀ b o, b ≠ 16 → s.heap.get? b = some o → (s.heap.hide 16).get? b = some o := fun b o hb e => (Heap.hide_ne _ hb).trans e
  have G1 : Good H0 { s with heap := h1, toks := s.toks + 3 } := ⟨fun b o e => F0.keep b o (G.keep b o e), ⟨ps, W.codeHd fun b o e => F0.keep b o (G.keep b o e), F0.keep _ _ hP16, ht⟩, G.bare⟩
  have hp16 : (s.heap.hide 16).get? 16 = none := Heap.hide_self _ 16
  have hls : l ≠ 16 := fun q => by
    obtain ⟨o, e, hc, nn, hd⟩ := hl
    rw [q, hP16] at e; cases e; cases hc
  have hl0 : (s.heap.hide 16).IsList l items := by
    obtain ⟨o, e, r⟩ := hl
    exact ⟨o, hb0 _ _ hls e, r⟩
  have hsz0 : (s.heap.hide 16).objs.size = s.heap.objs.size := Heap.hide_size _ 16
  have hL16 : s.heap.objs.size ≠ 16 := neA (by omega)
  have hlL : l < s.heap.objs.size := by obtain ⟨o, e, _⟩ := hl; exact Heap.lt_size e
  have hlL' := ltA (a := l) (b := s.heap.objs.size) hlL
  generalize hL : s.heap.objs.size = L at *
  generalize hh0 : s.heap.hide 16 = h0 at *
  have keepl : ∀ {h : Heap}, (∀ b o, h0.get? b = some o → h.get? b = some o) → h.IsList l items := fun k => by
    obtain ⟨o, e, r⟩ := hl0
    exact ⟨o, k _ _ e, r⟩
  have hn1 : 1 ≤ items.size := by
    rcases Nat.lt_or_ge 0 items.size with q | q
    · exact q
    · rw [Array.getElem?_eq_none q] at hx; cases hx
  have i1 : mg (Str.ofString "iter") = none := mg_none_of X W.g (by k_is)
  have i2 : mb (Str.ofString "iter") = some (.builtin "iter") := (W.bi _ (by decide)).trans (by decide +kernel)
  have i3 : mg (Str.ofString "_initial_missing") = some (.ref 22) := mg_of X W.g (by k_is)
  have i4 : mg (Str.ofString "next") = none := mg_none_of X W.g (by k_is)
  have i5 : mb (Str.ofString "next") = some (.builtin "next") := (W.bi _ (by decide)).trans (by decide +kernel)
  -- it = iter(sequence)
  refine wpAny_execs_cons (wpAny_Assign_Name (Call_ ?_))
  refine ld_builtin_at (s := ⟨h1, _, _, _, _⟩) F (W.g.keeps kH) i1 (W.b.keeps kH) i2 ?_ rfl rfl
  refine PyProof.Rows.callWith_builtin1 ?_
  refine spliced_more (ld (s := ⟨h1, _, _, _, _⟩) F (v := .ref l) rfl ?_ rfl rfl (by decide))
  refine spliced_none ?_
  refine call_iter ?_
  refine wpAny_pyIter_list (s := ⟨h1, _, _, _, _⟩) (keepl F.keep) ?_
  have hJL := ltA (a := L) (b := h1.objs.size) F.ns.lt
  have hJ0 : h0.get? h1.objs.size = none := Heap.get?_none_of_le (Nat.le_of_lt (by rw [hsz0]; exact hJL))
  have F2 := F.push { cls := .type "list_iterator", data := .fields #[.ref l, .int 0 0] }
  have G2 : Good H0 ⟨h1.push { cls := .type "list_iterator", data := .fields #[.ref l, .int 0 0] }, s.gens, s.drawn, s.toks + 3, s.os⟩ := Good.but W (wr := []) G1 (fun _ h => nomatch h) (fun h => nomatch h) (fun b o _ e => Heap.get?_push_of_some _ e) G.bare
  have st2 : (h1.push { cls := .type "list_iterator", data := .fields #[.ref l, .int 0 0] }).IsListIter h1.objs.size l 0 := ⟨_, Heap.get?_push_size h1 (o := { cls := .type "list_iterator", data := .fields #[.ref l, .int 0 0] }) rfl, rfl, rfl⟩
  dsimp only at F2 G2 st2 ⊢
  generalize h1.push { cls := .type "list_iterator", data := .fields #[.ref l, .int 0 0] } = h2 at *
  generalize hJ : h1.objs.size = J at *
  have hJ16 : J ≠ 16 := neA (by omega)
  have hLJ : L ≠ J := neA (by omega)
  have hlJ : l ≠ J := neA (by omega)
  have hlL2 : l ≠ L := neA (by omega)
  refine stK (s := ⟨h2, _, _, _, _⟩) F2 (fun h3 F3 S3 => ?_) rfl rfl
  have noH : ∀ {b : Addr}, h0.get? b = none → H0.get? b = none := fun {b} hb => by
    cases e : H0.get? b with
    | none => rfl
    | some o => have q := kH _ _ e; rw [hb] at q; cases q
  have hL0 : H0.get? L = none := noH (Heap.get?_none_of_le F.above)
  have G3 : Good H0 ⟨h3, s.gens, s.drawn, s.toks + 3 + 1, s.os⟩ := Good.but W (wr := [L]) G2 (fun b hb => by rw [List.mem_singleton.mp hb]; exact hL0) (fun q => hL16 (List.mem_singleton.mp q).symm) (fun b o hb e => S3.extBut b o (fun q => hb (by simp [q])) e) G.bare
  have st3 : h3.IsListIter J l 0 := st2.at fun o e => S3.extBut _ _ (Ne.symm hLJ) e
  -- if initial is _initial_missing
  refine wpAny_execs_cons (wpAny_If (wpAny_isTrue_Compare1 ?_))
  refine ld (s := ⟨h3, _, _, _, _⟩) F3 (v := .ref 22) ((if_neg (by decide)).trans rfl) ?_ rfl rfl (by decide)
  refine ld_global_at (s := ⟨h3, _, _, _, _⟩) F3 (W.g.keeps kH) i3 ?_ rfl rfl (by decide)
  refine wpAny_is_ref_self (wpAny_truthy_bool ?_)
  rw [if_pos rfl]
  refine wpAny_execs_cons (wpAny_Try_except ?_)
  refine wpAny_execs_cons (wpAny_Assign_Name (Call_ ?_))
  refine ld_builtin_at (s := ⟨h3, _, _, _, _⟩) F3 (W.g.keeps kH) i4 (W.b.keeps kH) i5 ?_ rfl rfl
  refine PyProof.Rows.callWith_builtin1 ?_
  refine spliced_more (ld (s := ⟨h3, _, _, _, _⟩) F3 (v := .ref J) (if_pos rfl) ?_ rfl rfl (by decide))
  refine spliced_none ?_
  refine call_next_list (s := ⟨h3, _, _, _, _⟩) st3 (keepl F3.keep) hx fun h5 st5 S5 => ?_
  have F5 := fr_walk F3 S5.extBut hLJ hJ0
  have G5 : Good H0 ⟨h5, s.gens, s.drawn, s.toks + 3 + 1, s.os⟩ := Good.but W (wr := [J]) G3 (fun b hb => by rw [List.mem_singleton.mp hb]; exact noH hJ0) (fun q => hJ16 (List.mem_singleton.mp q).symm) (fun b o hb e => S5.extBut b o (fun q => hb (by simp [q])) e) G.bare
  refine stK (s := ⟨h5, _, _, _, _⟩) F5 (fun h4 F4 S4 => ?_) rfl rfl
  have G4 : Good H0 ⟨h4, s.gens, s.drawn, s.toks + 3 + 1 + 1, s.os⟩ := Good.but W (wr := [L]) G5 (fun b hb => by rw [List.mem_singleton.mp hb]; exact hL0) (fun q => hL16 (List.mem_singleton.mp q).symm) (fun b o hb e => S4.extBut b o (fun q => hb (by simp [q])) e) G.bare
  have st4 : h4.IsListIter J l (0 + 1) := st5.at fun o e => S4.extBut _ _ (Ne.symm hLJ) e
  refine wpAny_execs_nil ?_
  refine wpAny_execs_nil ?_
  refine wpAny_execs_nil ?_
  refine red_tail (s := ⟨h4, _, _, _, _⟩) (i := 1) (acc := x) (t := t) W (Walks.list (by exact hh) J l hlJ items) (P := fun i v => items[i]? = some v) (I := I) (fn := fn) (hb := s.heap) (f := f)
    ⟨FO.at_, FO.ne, fun A s i acc t e Q E h1 h2 h3 h4 h5 h6 h7 => FO.call A s i acc t e Q E h1 h2 h3 h4 (hP i e h5) h6 h7⟩
    F4 G4 hp16 hL16 kH hb0 (fun q => (List.mem_cons.mp q).elim (fun q => hJ16 q.symm) fun q => hls (List.mem_singleton.mp q).symm) (fun q => (List.mem_cons.mp q).elim (fun q => hLJ q) fun q => hlL2 (List.mem_singleton.mp q).symm) (fun b hb => by rw [List.mem_singleton.mp hb]; exact hJ0) ⟨st4, keepl F4.keep⟩ hn1
    ((if_neg (by decide)).trans (if_pos rfl)) ((if_neg (by decide)).trans ((if_neg (by decide)).trans rfl)) (if_pos rfl) hI hh (by show A.depth + 1 + 3 < recursionLimit; omega) rfl rfl rfl rfl rfl
    fun y t' s' G' k' z' o' e' I' => hQ y t' s' G' (fun b o hb e => k' b o (hb0 b o hb e)) (Nat.le_of_lt z') o' e' I'
end
end Mine
end
section
/-! part P13 -/
open PySem PySem.W PyProof.Rows PySem.Spec
set_option maxRecDepth 100000
namespace Mine
theorem kfill13 : (PySem.Challenge.rw_mr0080_01 = PySem.Challenge.rw_mr0080_01) ∧ (hd.heap_39 = hd.heap_39) := by
  k_fill; exact ⟨rfl, rfl⟩
abbrev Lam : Str := Str.ofString "law.<locals>.<lambda>"
/-- a code of a lambda, apart from the two tables -/
def Cd (h : Heap) (cv : Value) : Prop := ∃ c oc vs t, cv = .ref c ∧ c ≠ 16 ∧ c ≠ 53 ∧ h.get? c = some oc ∧ oc.data = .fields vs ∧ vs[1]? = some (.str Lam t)
theorem Cd.rec_ {h : Heap} {cv : Value} (x : Cd h cv) : h.CodeRec cv Lam := let ⟨c, oc, vs, t, e, _, _, r⟩ := x; ⟨c, oc, vs, t, e, r⟩
abbrev K2 (h h' : Heap) : Prop := ∀ b o, b ≠ 16 → b ≠ 53 → h.get? b = some o → h'.get? b = some o
theorem Cd.k2 {h h' : Heap} {cv : Value} (x : Cd h cv) (k : K2 h h') : Cd h' cv := let ⟨c, oc, vs, t, e, n1, n2, g, r⟩ := x; ⟨c, oc, vs, t, e, n1, n2, k _ _ n1 n2 g, r⟩
theorem K2.trans {a b c : Heap} (x : K2 a b) (y : K2 b c) : K2 a c := fun d o h1 h2 e => y d o h1 h2 (x d o h1 h2 e)
theorem K2.of {a b : Heap} (x : ∀ d o, a.get? d = some o → b.get? d = some o) : K2 a b := fun d o _ _ e => x d o e
theorem K2.kp {a b : Heap} (x : Kp a b) : K2 a b := fun d o h1 _ e => x d o h1 e
def Tb (h : Heap) : Prop := ∃ ps, CodeHd h 55 53 ∧ h.get? 53 = some (tabObj ps) ∧ TriplesOk ps.toList ∧ ∀ pos cv, codeAmong pos ps.toList = some cv → Cd h cv
structure GL (H0 : Heap) (s : Shared) : Prop where
  good : Good H0 s
  tab : Tb s.heap
/-- no code lies here -/
def NotCd (h : Heap) (b : Addr) : Prop := ∀ oc vs t, h.get? b = some oc → oc.data = .fields vs → vs[1]? = some (.str Lam t) → False
theorem NotCd.ns {h : Heap} {b : Addr} {m : Str → Option Value} (x : h.Ns b m) : NotCd h b := fun oc vs t e d _ => by
  obtain ⟨o, es, ep, e2, hd, _⟩ := x
  rw [e2] at e; cases e; rw [hd] at d; cases d
theorem NotCd.list {h : Heap} {b : Addr} {vs : Array Value} (x : h.IsList b vs) : NotCd h b := fun oc vs t e d _ => by
  obtain ⟨o, e2, _, n, hd⟩ := x
  rw [e2] at e; cases e; rw [hd] at d; cases d
theorem NotCd.listIter {h : Heap} {b l : Addr} {i : Nat} (x : h.IsListIter b l i) : NotCd h b := fun oc vs t e d v => by
  obtain ⟨o, e2, _, hd⟩ := x
  rw [e2] at e; cases e; rw [hd] at d; cases d; cases v
theorem NotCd.rangeIter {h : Heap} {b : Addr} {x l c : Int} (q : IsRangeIter h b x l c) : NotCd h b := fun oc vs t e d v => by
  rw [show h.get? b = _ from q] at e; cases e; cases d; cases v
theorem NotCd.new {h : Heap} {b : Addr} (q : h.get? b = none) : NotCd h b := fun oc vs t e _ _ => by rw [q] at e; cases e
theorem Wd.codeHd2 {w : World} {mg mb : Str → Option Value} {bm : Addr} {ob : Obj} {H0 : Heap} (W : Wd w mg mb bm ob H0) {h : Heap} (k : ∀ b o, H0.get? b = some o → h.get? b = some o) : CodeHd h 55 53 := codeHd_of_K (W.X.keeps k) (by kernel_rfl)
theorem GL.but {w : World} {mg mb : Str → Option Value} {bm : Addr} {ob : Obj} {H0 : Heap} (W : Wd w mg mb bm ob H0) {s s' : Shared} {wr : List Addr} (G : GL H0 s) (hw : ∀ b ∈ wr, H0.get? b = none) (h16 : 16 ∉ wr) (h53 : 53 ∉ wr)
    (hn : ∀ b ∈ wr, NotCd s.heap b) (k : ∀ b o, b ∉ wr → s.heap.get? b = some o → s'.heap.get? b = some o) (hg : AllBare s'.gens) : GL H0 s' := by
  have g := Good.but W G.good hw h16 k hg
  obtain ⟨ps, C, hP, ht, hc⟩ := G.tab
  refine ⟨g, ps, W.codeHd2 g.keep, k _ _ h53 hP, ht, fun pos cv e => ?_⟩
  obtain ⟨c, oc, vs, t, e1, n1, n2, e2, e3, e4⟩ := hc pos cv e
  exact ⟨c, oc, vs, t, e1, n1, n2, k _ _ (fun q => hn c q oc vs t e2 e3 e4) e2, e3, e4⟩
/-- after a call that keeps all but _platform's table -/
theorem GL.kp {w : World} {mg mb : Str → Option Value} {bm : Addr} {ob : Obj} {H0 : Heap} (W : Wd w mg mb bm ob H0) {s s' : Shared} (G : GL H0 s) (g : Good H0 s') (k : Kp s.heap s'.heap) : GL H0 s' := by
  obtain ⟨ps, C, hP, ht, hc⟩ := G.tab
  exact ⟨g, ps, W.codeHd2 g.keep, k _ _ (by decide) hP, ht, fun pos cv e => (hc pos cv e).k2 (K2.kp k)⟩
theorem codeAmong_app {pos q : Pos} {c cv : Value} : ∀ (l : List Value), TriplesOk l → codeAmong q (l ++ [rawInt pos.line, rawInt pos.col, c]) = some cv → codeAmong q l = some cv ∨ cv = c := by
  intro l h
  fun_induction TriplesOk l with
  | case1 =>
    intro e
    simp only [List.nil_append, codeAmong, rawInt] at e
    split at e
    · exact .inr (Option.some.inj e).symm
    · cases e
  | case2 a b c' d r rest ih =>
    intro e
    simp only [List.cons_append, codeAmong] at e ⊢
    split at e
    · rename_i q; rw [if_pos q]; exact .inl e
    · rename_i q; rw [if_neg q]; exact ih h e
  | case3 => exact absurd h id
section
variable {prog : Program} {w : World} {A : Around} {E : Value → Shared → Prop} {s : Shared} {mg mb : Str → Option Value} {bm : Addr} {ob : Obj} {H0 : Heap}
/-- the object of a lambda without free names -/
def IsLam (h : Heap) (f : Addr) (params : Arguments) (body : Expr) (scope : Scope) : Prop :=
  ∃ pm cv ctv, h.get? f = some { cls := .type "function", data := .func (kla_fn "<lambda>" Lam params body scope [] pm cv ctv) } ∧ Cd h cv
theorem lam_new (W : Wd w mg mb bm ob H0) {env : Env} {params : Arguments} {body : Expr} {scope : Scope} {pos : Pos} {Q : Value → Shared → Prop} (G : GL H0 s) (hcl : closureFor scope env = pure []) (hge : env.globals = mainGlobals) (hcd : env.code = .ref 55)
    (hq : env.qual ++ ("<lambda>" : Str) = Lam) (hdef : defaultsOf params env = ([], []))
    (hQ : ∀ f s', GL H0 s' → K2 s.heap s'.heap → s.heap.objs.size ≤ f → f < s'.heap.objs.size → s'.os = s.os → IsLam s'.heap f params body scope → Q (.ref f) s') :
    wpAny (model prog w) A (eval (.Lambda params body scope pos) env) Q E s := by
  refine kla_eval hdef ?_
  rw [hq]
  obtain ⟨ps, C, hP, ht, hc⟩ := G.tab
  have hg := W.g.keeps G.good.keep
  have hbm := W.bmod.keeps G.good.keep
  have h53lt := ltA (a := 53) (b := s.heap.objs.size) (Heap.lt_size hP)
  have hgP : mainGlobals ≠ 53 := fun q => by
    obtain ⟨o, es, ep, e, hd, _⟩ := hg
    rw [q, hP] at e; cases e; cases hd
  have hbP : bm ≠ 53 := fun q => by
    have e := hbm.obj
    rw [q, hP] at e; cases e; have := hbm.cls; cases this
  have hbG : bm ≠ mainGlobals := fun q => by
    obtain ⟨o, es, ep, e, hd, _⟩ := hg
    have e' := hbm.obj
    rw [q, e] at e'; cases e'; have := hbm.data; rw [hd] at this; cases this
  have hbt : s.heap.BuiltinsAt mg 53 := ⟨bm, ob, hbm.name, hbm.ne, hbG, hbP, hbm.obj, hbm.cls, hbm.dict, hbm.data⟩
  cases hf : codeAmong pos ps.toList with
  | some cv =>
    have hcv := hc pos cv hf
    refine kla_makeFunctionHit hcl hge hg hcd C hP ht hf hbt fun ctv h' tk hk hsz => ?_
    have kk : ∀ b o, s.heap.get? b = some o → (h'.push { cls := .type "function", data := .func (kla_fn "<lambda>" Lam params body scope [] ((mg "__name__").getD .none) cv ctv) }).get? b = some o := fun b o e => Heap.get?_push_of_some _ (hk b o e)
    refine hQ h'.objs.size _ (GL.but W (wr := []) G (fun _ h => nomatch h) (fun h => nomatch h) (fun h => nomatch h) (fun _ h => nomatch h) (fun b o _ e => kk b o e) G.good.bare) (K2.of kk) hsz (by show _ < (Heap.push _ _).objs.size; rw [Heap.size_push]; exact Nat.lt_succ_self _) rfl ?_
    exact ⟨_, cv, ctv, Heap.get?_push_size _ rfl, hcv.k2 (K2.of kk)⟩
  | none =>
    refine kla_makeFunction hcl hge hg hcd C hP ht hf hgP hbt fun c' ctv h' tk hx hge' hlt hrec htb => ?_
    have kk : ∀ b o, b ≠ 53 → s.heap.get? b = some o → (h'.push (kla_obj "<lambda>" Lam params body scope [] ((mg "__name__").getD .none) c' ctv)).get? b = some o := fun b o hb e => Heap.get?_push_of_some _ (hx b o hb e)
    have n53 : ∀ b o, H0.get? b = some o → b ≠ 53 := fun b o e q => by rw [q, W.n53] at e; cases e
    have kH : ∀ b o, H0.get? b = some o → _ := fun b o e => kk b o (n53 b o e) (G.good.keep b o e)
    obtain ⟨c₂, oc, vs, t, e2, hoc, hd, hv⟩ := hrec
    cases e2
    have hcge := ltA (a := 53) (b := c') (Nat.lt_of_lt_of_le h53lt hge')
    have hCd : Cd (h'.push (kla_obj "<lambda>" Lam params body scope [] ((mg "__name__").getD .none) c' ctv)) (.ref c') := ⟨c', oc, vs, t, rfl, neA (by omega), neA (by omega), Heap.get?_push_of_some _ hoc, hd, hv⟩
    have k2 : K2 s.heap (h'.push (kla_obj "<lambda>" Lam params body scope [] ((mg "__name__").getD .none) c' ctv)) := fun b o _ hb e => kk b o hb e
    refine hQ h'.objs.size _ ⟨⟨kH, ?_, G.good.bare⟩, ?_⟩ k2 (Nat.le_trans hge' (Nat.le_of_lt hlt)) (by show _ < (Heap.push _ _).objs.size; rw [Heap.size_push]; exact Nat.lt_succ_self _) rfl ⟨_, _, ctv, Heap.get?_push_size _ rfl, hCd⟩
    · obtain ⟨p2, C2, hP2, ht2⟩ := G.good.tab
      exact ⟨p2, W.codeHd kH, kk _ _ (by decide) hP2, ht2⟩
    · refine ⟨_, W.codeHd2 kH, Heap.get?_push_of_some _ htb, ?_, fun q cv e => ?_⟩
      · rw [Array.toList_append]; exact TriplesOk_snoc _ _ _ _ ht
      · rw [Array.toList_append] at e
        rcases codeAmong_app _ ht e with e | rfl
        · exact (hc q cv e).k2 k2
        · exact hCd
end
end Mine
end
section
/-! part P14 -/
open PySem PySem.W PyProof.Rows PySem.Spec
set_option maxRecDepth 100000
namespace Mine
theorem kfill14 : (PySem.Challenge.rw_mr0080_01 = PySem.Challenge.rw_mr0080_01) ∧ (hd.heap_39 = hd.heap_39) := by
  k_fill; exact ⟨rfl, rfl⟩
theorem al_mc {c : Nat} (h : c < 128 ∧ Unicode.isSpace c = wh c) : mc c < 128 ∧ Unicode.isSpace (mc c) = wh (mc c) := by
  unfold mc
  split
  · exact ⟨by decide, by decide +kernel⟩
  · split
    · exact ⟨by decide, by decide +kernel⟩
    · exact h
theorem plat1_al {t : List Nat} (h : Al t) : Al (plat1 t) := fun c hc => by
  unfold plat1 Tr Rm at hc
  have h2 := mem_Hf c _ _ (mem_rstrip hc)
  rcases mem_rep _ _ c _ _ h2 with h3 | h3
  · obtain ⟨d, hd, rfl⟩ := List.mem_map.mp h3
    exact al_mc (h d (mem_strip hd))
  · cases h3
theorem rstripL_len (g : Nat → Bool) (l : List Nat) : (rstripL g l).length ≤ l.length := by
  obtain ⟨a, e, _⟩ := rstrip_split g l
  have := congrArg List.length e
  rw [List.length_append] at this; omega
theorem lstripL_len (g : Nat → Bool) (l : List Nat) : (lstripL g l).length ≤ l.length := by
  obtain ⟨a, e, _⟩ := lstrip_split g l
  have := congrArg List.length e
  rw [List.length_append] at this; omega
theorem Hf_len : ∀ (l : List Nat) (b : Bool), (Hf b l).length ≤ l.length := by
  intro l
  induction l with
  | nil => intro b; simp [Hf]
  | cons c r ih =>
    intro b
    rw [Hf_cons]
    split
    · split
      · exact Nat.le_trans (ih true) (Nat.le_succ _)
      · exact Nat.succ_le_succ (ih true)
    · exact Nat.succ_le_succ (ih false)
theorem plat1_len (t : List Nat) : (plat1 t).length ≤ t.length := by
  unfold plat1 Tr
  refine Nat.le_trans (rstripL_len _ _) (Nat.le_trans (Hf_len _ _) ?_)
  unfold Rm
  refine Nat.le_trans (rep_short unk [] (by decide) _).1 ?_
  rw [List.length_map]
  exact Nat.le_trans (rstripL_len _ _) (lstripL_len _ _)
theorem op_al {a b : List Nat} (ha : Al a) (hb : Al b) : Al (op a b) := fun c hc => by
  unfold op at hc
  split at hc
  · rcases List.mem_append.mp hc with h | h
    · exact ha c h
    · rcases List.mem_cons.mp h with rfl | h
      · exact ⟨by decide, by decide +kernel⟩
      · exact hb c h
  · rcases List.mem_append.mp hc with h | h
    · exact ha c h
    · exact hb c h
theorem run_iter : ∀ (n i : Nat) (x : List Nat), run (fun _ a => plat1 a) i n x = iter n x
  | 0, _, _ => rfl
  | n + 1, i, x => run_iter n (i + 1) (plat1 x)
theorem run_left (l : List (List Nat)) : ∀ (k i : Nat) (x : List Nat), i + k = l.length → run (fun i a => op a (l.getD i [])) i k x = (l.drop i).foldl op x
  | 0, i, x, h => by rw [List.drop_of_length_le (by omega)]; rfl
  | k + 1, i, x, h => by
    have hi : i < l.length := by omega
    rw [List.drop_eq_getElem_cons hi, List.foldl_cons]
    have := run_left l k (i + 1) (op x (l.getD i [])) (by omega)
    rw [show l.getD i [] = l[i] from by simp [List.getD_eq_getElem?_getD, hi]] at this
    rw [← this]
    show run _ (i + 1) k (op x (l.getD i [])) = _
    rw [show l.getD i [] = l[i] from by simp [List.getD_eq_getElem?_getD, hi]]
theorem run_right (l : List (List Nat)) : ∀ (k i : Nat) (x : List Nat), i + k = l.length → run (fun i a => op (l.getD i []) a) i k x = (l.drop i).foldl (fun a b => op b a) x
  | 0, i, x, h => by rw [List.drop_of_length_le (by omega)]; rfl
  | k + 1, i, x, h => by
    have hi : i < l.length := by omega
    rw [List.drop_eq_getElem_cons hi, List.foldl_cons]
    have := run_right l k (i + 1) (op (l.getD i []) x) (by omega)
    rw [show l.getD i [] = l[i] from by simp [List.getD_eq_getElem?_getD, hi]] at this
    rw [← this]
    show run _ (i + 1) k (op (l.getD i []) x) = _
    rw [show l.getD i [] = l[i] from by simp [List.getD_eq_getElem?_getD, hi]]
theorem left_jn (l : List (List Nat)) (h : l ≠ []) : run (fun i a => op a (l.getD i [])) 1 (l.length - 1) (l.getD 0 []) = jn l := by
  have hl := List.length_pos_iff.mpr h
  rw [run_left l _ _ _ (by omega)]
  cases l with
  | nil => exact absurd rfl h
  | cons a r =>
    show r.foldl op a = _
    rw [jn_fold, jn_cons]
theorem flip_jn : ∀ (l : List (List Nat)) (x : List Nat), l.foldl (fun a b => op b a) x = op (jn l.reverse) x
  | [], x => (op_nil_left x).symm
  | h :: r, x => by
    rw [List.foldl_cons, flip_jn r, ← op_assoc, List.reverse_cons]
    unfold jn
    rw [List.foldl_append]; rfl
theorem right_jn (l : List (List Nat)) (h : l ≠ []) : run (fun i a => op (l.reverse.getD i []) a) 1 (l.reverse.length - 1) (l.reverse.getD 0 []) = jn l := by
  have hl : 0 < l.reverse.length := by rw [List.length_reverse]; exact List.length_pos_iff.mpr h
  rw [run_right l.reverse _ _ _ (by omega)]
  have e : jn l = l.reverse.foldl (fun a b => op b a) [] := by rw [flip_jn, List.reverse_reverse, op_nil_right]
  rw [e]
  cases q : l.reverse with
  | nil => rw [q] at hl; exact absurd hl (by decide)
  | cons a r =>
    show r.foldl _ a = _
    rw [List.foldl_cons, op_nil_right]
section
variable {prog : Program} {w : World} {A : Around} {E : Value → Shared → Prop} {s : Shared} {mg mb : Str → Option Value} {bm : Addr} {ob : Obj} {H0 : Heap}
abbrev lamScope (n1 n2 : Str) : Scope := ⟨.function, [(n1, .local), (n2, .local), (Str.ofString "_platform", .globalImplicit)], false, false, []⟩
abbrev lamParams (n1 n2 : Str) (p1 p2 : Pos) : Arguments := ⟨[], [⟨n1, none, p1⟩, ⟨n2, none, p2⟩], none, [], [], none, []⟩
abbrev nAgain : Str := Str.ofString "again"
abbrev nBeh : Str := Str.ofString "behind"
abbrev nAh : Str := Str.ofString "ahead"
abbrev nPlat : Str := Str.ofString "_platform"
theorem Fn21 (W : Wd w mg mb bm ob H0) {h : Heap} (k : ∀ b o, H0.get? b = some o → h.get? b = some o) : FnAt 21 h := ⟨_, _, _, _, k _ _ (W.X 21 _ (by k_is))⟩
theorem Wd.plat (W : Wd w mg mb bm ob H0) : mg nPlat = some (.ref 21) := mg_of W.X W.g (by k_is)
/-- lambda told, again: _platform(told) -/
theorem fok_one (W : Wd w mg mb bm ob H0) {f : Addr} {hb : Heap} {p1 p2 r1 r2 r3 : Pos} (hf : f ≠ 16)
    (hl : IsLam hb f (lamParams nTold nAgain p1 p2) (.Call (.Name nPlat r1) [.Name nTold r2] [] r3) (lamScope nTold nAgain)) :
    FOk prog w H0 hb f (fun _ _ => True) (fun _ a => plat1 a) (fun _ a => Al a ∧ a.length ≤ 1000) := by
  obtain ⟨pm, cv, ctv, ho, hcd⟩ := hl
  refine ⟨⟨_, _, _, _, ho⟩, hf, fun A s i acc t e Q E hh hroom hk G _ hI hQ => ?_⟩
  refine wpAny_call ?_
  have ho' := hk _ _ hf ho
  refine kla_callFunE (by omega) ho' rfl rfl rfl rfl (hcd.k2 (K2.kp hk)).rec_ ?_
  refine wpAny_of_eq (a := [(nTold, .str acc t), (nAgain, e)]) rfl ?_
  refine wpAny_newFunctionEnv (scope := lamScope nTold nAgain) (by decide) (locs rfl) (fun h2 hns hsb => ⟨((W.lim.keeps G.keep)).fresh _ hsb, ?_⟩) rfl
  dsimp only at hns hsb ⊢
  have kp2 : ∀ b o, s.heap.get? b = some o → h2.get? b = some o := fun b o e => hsb.extBut b o (Nat.ne_of_lt (Heap.lt_size e)) (Heap.get?_push_of_some _ e)
  show codeAny _ _ (.expr _ (envOf Lam (lamScope nTold nAgain) s.heap.objs.size f cv)) _ _
  refine kla_codeExpr ?_
  have F : Fr s.heap s.heap.objs.size h2 _ := ⟨hns, kp2, Nat.le_refl _⟩
  have G2 : Good H0 ⟨h2, s.gens, s.drawn, s.toks + 2, s.os⟩ := Good.but W (wr := []) G (fun _ h => nomatch h) (fun h => nomatch h) (fun b o _ e => kp2 b o e) G.bare
  refine Call_ ?_
  refine ld_global_at (s := ⟨h2, _, _, _, _⟩) F (W.g.keeps G.keep) W.plat ?_ rfl rfl (by decide)
  have hfn := Fn21 W G2.keep
  refine callWith_F (s := ⟨h2, _, _, _, _⟩) hfn ?_
  refine spliced_more (ld (s := ⟨h2, _, _, _, _⟩) F (v := .str acc t) rfl ?_ rfl rfl (by decide))
  refine spliced_none ⟨hfn, ?_⟩
  refine plat_spec (s := ⟨h2, s.gens, s.drawn, s.toks + 2, s.os⟩) (xs := [acc]) W G2 (.cons _ _ .nil) (fun x hx => by rw [List.mem_singleton.mp hx]; exact hI.1) (fun x hx => by rw [List.mem_singleton.mp hx, ← tl_length]; exact hI.2) (Nat.le_of_ble_eq_true rfl) hh (by show A.depth + 1 + 1 < recursionLimit; omega) fun y t' s' G' k' z' o' e' => ?_
  have e2 : tl y = plat1 (tl acc) := by rw [show tl y = _ from e', List.map_cons, List.map_nil, platL_one]
  refine hQ y t' s' G' (fun b o hb' e => k' b o hb' (kp2 b o e)) (Nat.le_trans (Nat.le_of_lt F.ns.lt) z') o' e2 ⟨e2 ▸ plat1_al hI.1, ?_⟩
  rw [e2]; exact Nat.le_trans (plat1_len _) hI.2
/-- a name: a text in normal form -/
def IsNm (n : List Nat) (v : Value) : Prop := ∃ x t, v = .str x t ∧ tl x = n ∧ Nm n ∧ Al n ∧ n.length ≤ 99
def INm (i : Nat) (a : List Nat) : Prop := Nm a ∧ Al a ∧ a.length ≤ 100 * i
theorem INm.op {i : Nat} {a n : List Nat} (h : INm i a) (h1 : Nm n) (h2 : Al n) (h3 : n.length ≤ 99) : INm (i + 1) (Mine.op a n) := ⟨h.1.op h1, op_al h.2.1 h2, by
  have := op_len a n; have := h.2.2; omega⟩
theorem INm.op' {i : Nat} {a n : List Nat} (h : INm i a) (h1 : Nm n) (h2 : Al n) (h3 : n.length ≤ 99) : INm (i + 1) (Mine.op n a) := ⟨h1.op h.1, op_al h2 h.2.1, by
  have := op_len n a; have := h.2.2; omega⟩
theorem plat_two (W : Wd w mg mb bm ob H0) {a b : Str} {t1 t2 : Tok} {Q : Value → Shared → Prop} (G : Good H0 s) (ha : Nm (tl a) ∧ Al (tl a) ∧ (tl a).length ≤ 1000) (hb : Nm (tl b) ∧ Al (tl b) ∧ (tl b).length ≤ 1000)
    (hh : A.handled = none) (hroom : A.depth + 1 < recursionLimit) (hQ : ∀ y t s', Good H0 s' → Kp s.heap s'.heap → s.heap.objs.size ≤ s'.heap.objs.size → s'.os = s.os → tl y = op (tl a) (tl b) → Q (.str y t) s') :
    wpAny (model prog w) A (call (.ref 21) [.str a t1, .str b t2]) Q E s := by
  refine plat_spec (xs := [a, b]) W G (.cons _ _ (.cons _ _ .nil)) (fun x hx => ?_) (fun x hx => ?_) (Nat.le_of_ble_eq_true rfl) hh hroom fun y t' s' G' k' z' o' e' => hQ y t' s' G' k' z' o' ?_
  · rcases List.mem_cons.mp hx with rfl | hx
    · exact ha.2.1
    · rw [List.mem_singleton.mp hx]; exact hb.2.1
  · rcases List.mem_cons.mp hx with rfl | hx
    · rw [← tl_length]; exact ha.2.2
    · rw [List.mem_singleton.mp hx, ← tl_length]; exact hb.2.2
  · rw [show tl y = _ from e']; exact platL_two ha.1 hb.1
/-- _platform itself -/
theorem fok_plat (W : Wd w mg mb bm ob H0) {hb : Heap} (kb : ∀ b o, H0.get? b = some o → hb.get? b = some o) (nm : Nat → List Nat) :
    FOk prog w H0 hb 21 (fun i e => IsNm (nm i) e ∧ i < 8) (fun i a => op a (nm i)) INm := by
  refine ⟨Fn21 W kb, by decide, fun A s i acc t e Q E hh hroom hk G hP hI hQ => ?_⟩
  obtain ⟨⟨x, tx, rfl, hx, h1, h2, h3⟩, hi⟩ := hP
  refine plat_two W G ⟨hI.1, hI.2.1, by have := hI.2.2; omega⟩ ⟨hx ▸ h1, hx ▸ h2, by rw [hx]; omega⟩ hh (by omega) fun y t' s' G' k' z' o' e' => ?_
  rw [hx] at e'
  exact hQ y t' s' G' k' z' o' e' (e' ▸ hI.op h1 h2 h3)
/-- lambda behind, ahead: _platform(ahead, behind) -/
theorem fok_back (W : Wd w mg mb bm ob H0) {f : Addr} {hb : Heap} {p1 p2 r1 r2 r3 r4 : Pos} (nm : Nat → List Nat) (hf : f ≠ 16)
    (hl : IsLam hb f (lamParams nBeh nAh p1 p2) (.Call (.Name nPlat r1) [.Name nAh r2, .Name nBeh r3] [] r4) (lamScope nBeh nAh)) :
    FOk prog w H0 hb f (fun i e => IsNm (nm i) e ∧ i < 8) (fun i a => op (nm i) a) INm := by
  obtain ⟨pm, cv, ctv, ho, hcd⟩ := hl
  refine ⟨⟨_, _, _, _, ho⟩, hf, fun A s i acc t e Q E hh hroom hk G hP hI hQ => ?_⟩
  obtain ⟨⟨x, tx, rfl, hx, h1, h2, h3⟩, hi⟩ := hP
  refine wpAny_call ?_
  have ho' := hk _ _ hf ho
  refine kla_callFunE (by omega) ho' rfl rfl rfl rfl (hcd.k2 (K2.kp hk)).rec_ ?_
  refine wpAny_of_eq (a := [(nBeh, .str acc t), (nAh, .str x tx)]) rfl ?_
  refine wpAny_newFunctionEnv (scope := lamScope nBeh nAh) (by decide) (locs rfl) (fun h2 hns hsb => ⟨((W.lim.keeps G.keep)).fresh _ hsb, ?_⟩) rfl
  dsimp only at hns hsb ⊢
  have kp2 : ∀ b o, s.heap.get? b = some o → h2.get? b = some o := fun b o e => hsb.extBut b o (Nat.ne_of_lt (Heap.lt_size e)) (Heap.get?_push_of_some _ e)
  show codeAny _ _ (.expr _ (envOf Lam (lamScope nBeh nAh) s.heap.objs.size f cv)) _ _
  refine kla_codeExpr ?_
  have F : Fr s.heap s.heap.objs.size h2 _ := ⟨hns, kp2, Nat.le_refl _⟩
  have G2 : Good H0 ⟨h2, s.gens, s.drawn, s.toks + 2, s.os⟩ := Good.but W (wr := []) G (fun _ h => nomatch h) (fun h => nomatch h) (fun b o _ e => kp2 b o e) G.bare
  refine Call_ ?_
  refine ld_global_at (s := ⟨h2, _, _, _, _⟩) F (W.g.keeps G.keep) W.plat ?_ rfl rfl (by decide)
  have hfn := Fn21 W G2.keep
  refine callWith_F (s := ⟨h2, _, _, _, _⟩) hfn ?_
  refine spliced_more (ld (s := ⟨h2, _, _, _, _⟩) F (v := .str x tx) rfl ?_ rfl rfl (by decide))
  refine spliced_more (ld (s := ⟨h2, _, _, _, _⟩) F (v := .str acc t) rfl ?_ rfl rfl (by decide))
  refine spliced_none ⟨hfn, ?_⟩
  refine plat_two (s := ⟨h2, s.gens, s.drawn, s.toks + 2, s.os⟩) W G2 ⟨hx ▸ h1, by rw [hx]; assumption, by rw [hx]; omega⟩ ⟨hI.1, hI.2.1, by have := hI.2.2; omega⟩ hh (by show A.depth + 1 + 1 < recursionLimit; omega) fun y t' s' G' k' z' o' e' => ?_
  rw [hx] at e'
  refine hQ y t' s' G' (fun b o hb' e => k' b o hb' (kp2 b o e)) (Nat.le_trans (Nat.le_of_lt F.ns.lt) z') o' e' ?_
  rw [e']; exact hI.op' h1 (by assumption) h3
end
end Mine
end
section
/-! part P15 -/
open PySem PySem.W PyProof.Rows PySem.Spec PySem.SeqAt
set_option maxRecDepth 100000
namespace Mine
theorem kfill15 : (PySem.Challenge.rw_mr0080_01 = PySem.Challenge.rw_mr0080_01) ∧ (hd.heap_39 = hd.heap_39) := by
  k_fill; exact ⟨rfl, rfl⟩
abbrev listObj (vs : Array Value) : Obj := { cls := .type "list", data := .seq vs }
theorem isList_new {h : Heap} (vs : Array Value) : (h.push (listObj vs)).IsList h.objs.size vs := ⟨_, Heap.get?_push_size _ rfl, rfl, _, rfl⟩
section
variable {prog : Program} {w : World} {A : Around} {E : Value → Shared → Prop} {s : Shared}
/-- l[lo:hi:st] of a list, the heap as it is -/
theorem slice_h {value slice : Expr} {l : Addr} {items : Array Value} {vl vu vk : Value} {lo hi st : Option Int} {ops : List Value} {Q : Value → Shared → Prop}
    (hl : s.heap.IsList l items) (pl : IsPart vl lo) (pu : IsPart vu hi) (pk : IsPart vk st) (h0 : st ≠ some 0) (hsz : items.size ≤ sizeLine)
    (h : ∀ h', (∀ b o, s.heap.get? b = some o → h'.get? b = some o) → s.heap.objs.size ≤ h'.objs.size → h'.IsList (s.heap.objs.size + 1) (slicePick items lo hi st) → Q (.ref (s.heap.objs.size + 1)) { s with heap := h' })
    (hs : subscripted slice false (.ref l) (.ref s.heap.objs.size) = operate ops (getItem (.ref l) (.ref s.heap.objs.size)) := by with_unfolding_all rfl)
    (ht : ∀ r, letTemporaryGo value (.ref l) r = pure () := by intro _; with_unfolding_all rfl) :
    wpAny (model prog w) A (subscriptTail value slice (.ref l) (.ref s.heap.objs.size)) Q E { s with heap := s.heap.push { cls := .type "slice", data := .fields #[vl, vu, vk] } } := by
  refine subscriptTail_ops (Heap.IsList.typeIs (s := { s with heap := s.heap.push { cls := .type "slice", data := .fields #[vl, vu, vk] } }) (hl.push _)) list_getitem_lookup
    (wpAny_getItem_list_slice (hl.push _) (Heap.IsSliceOf.new ..) pl pu pk h0 ?_ hsz) hs ht
  show Q (.ref (s.heap.push _).objs.size) _
  rw [Heap.size_push]
  refine h _ (fun b o e => Heap.get?_push_of_some _ (Heap.get?_push_of_some _ e)) ?_ ?_
  · rw [Heap.size_push, Heap.size_push]; omega
  · have := isList_new (h := s.heap.push { cls := .type "slice", data := .fields #[vl, vu, vk] }) (slicePick items lo hi st)
    rw [Heap.size_push] at this; exact this
theorem add_h {l b : Addr} {vs ws : List Value} {Q : Value → Shared → Prop} (hl : s.heap.IsList l vs.toArray) (hb : s.heap.IsList b ws.toArray) (hsz : vs.length + ws.length ≤ sizeLine)
    (h : ∀ h', (∀ b o, s.heap.get? b = some o → h'.get? b = some o) → s.heap.objs.size ≤ h'.objs.size → h'.IsList s.heap.objs.size (vs ++ ws).toArray → Q (.ref s.heap.objs.size) { s with heap := h' }) :
    wpAny (model prog w) A (binaryOp .Add (.ref l) (.ref b)) Q E s := by
  obtain ⟨⟨cls, dd, data, sl⟩, ho, hc, n, hd⟩ := id hl
  obtain ⟨⟨cls2, dd2, data2, sl2⟩, ho2, hc2, n2, hd2⟩ := id hb
  simp only at hc hd hc2 hd2
  subst hc hd hc2 hd2
  have e : vs.toArray ++ ws.toArray = (vs ++ ws).toArray := by simp
  refine concat_meets ⟨_, ho, rfl⟩ ⟨_, ho2, rfl⟩ noFill_list_add seq_list_add PySem.F.slot_list_add PySem.F.entry_list_add (PySem.F.args_list_add_2 _ _) (list_addW l b vs.toArray ws.toArray n n2 dd dd2 sl sl2 (by simpa using hsz)) ⟨ho, ho2, ?_⟩
  rw [e]
  exact h _ (fun b o e => Heap.get?_push_of_some _ e) (by rw [Heap.size_push]; omega) (isList_new _)
theorem mul_h {l : Addr} {v : Value} {k : Nat} {u : Tok} {Q : Value → Shared → Prop} (hl : s.heap.get? l = some { cls := .type "list", dict := none, data := .seq #[v] k, slots := #[] })
    (h : ∀ h', (∀ b o, s.heap.get? b = some o → h'.get? b = some o) → s.heap.objs.size ≤ h'.objs.size → h'.IsList s.heap.objs.size #[v, v, v] → Q (.ref s.heap.objs.size) { s with heap := h' }) :
    wpAny (model prog w) A (binaryOp .Mult (.ref l) (.int 3 u)) Q E s :=
  wpAny_binaryOp_repeat_ref (T := "list") (U := "int") (by decide) ⟨_, hl, rfl⟩ (fun s' => typeIs_int s' 3 u) noFill_list_mul F.fills_int_mul F.slot_int_rmul repeat_list F.slot_int_index.lookup
    (call_meets F.slot_int_rmul (typeIs_int s 3 u) F.entry_int_rmul (F.args_int_rmul_2 _ _) (int___rmul___int_list 3 u l #[v] k)
      ⟨hl, rfl, ⟨_, hl, rfl⟩, call_meets F.slot_list_mul ⟨_, hl, rfl⟩ F.entry_list_mul (F.args_list_mul_2 _ _)
        (AutoListH.list___mul___list_int_3 l #[v] k 3 u (by decide) (show ¬ (1 * 3 > (2 ^ 63 - 1) / 8) by decide) (show ¬ Builtin.List.listTooLong (1 * 3) = true by decide +kernel))
        ⟨hl, h _ (fun b o e => Heap.get?_push_of_some _ e) (by rw [Heap.size_push]; omega) (isList_new _)⟩⟩)
theorem all_same {vs ws : List Value} {xs : List Str} (hv : StrsAre vs xs) (hw : StrsAre ws xs) : ∀ j (h1 : j < vs.toArray.size) (h2 : j < ws.toArray.size), EqAt A s vs.toArray[j] ws.toArray[j] true := by
  intro j h1 h2
  have hl := hv.length
  have hj : j < xs.length := by simp at h1; omega
  obtain ⟨t1, e1⟩ := hv.get j xs[j] (List.getElem?_eq_getElem hj)
  obtain ⟨t2, e2⟩ := hw.get j xs[j] (List.getElem?_eq_getElem hj)
  have a1 : vs.toArray[j] = .str xs[j] t1 := by
    rw [List.getElem_toArray]; rw [List.getElem?_eq_getElem (by simpa using h1)] at e1; exact Option.some.inj e1
  have a2 : ws.toArray[j] = .str xs[j] t2 := by
    rw [List.getElem_toArray]; rw [List.getElem?_eq_getElem (by simpa using h2)] at e2; exact Option.some.inj e2
  rw [a1, a2]
  have := EqAt.str_str (A := A) (s := s) xs[j] t1 xs[j] t2
  simpa using this
theorem eq_h {l b : Addr} {vs ws : List Value} {xs : List Str} {Q : Value → Shared → Prop} (hl : s.heap.IsList l vs.toArray) (hb : s.heap.IsList b ws.toArray) (hv : StrsAre vs xs) (hw : StrsAre ws xs) (hu : A.units < cLine) (h : Q (.bool true) s) :
    wpAny (model prog w) A (compareOp .Eq (.ref l) (.ref b)) Q E s := by
  refine eq_listAt (e := fun _ => true) hl hb (by simp [hv.length, hw.length]) hu (all_same hv hw) ?_
  have : ∀ n : Nat, (List.range n).all (fun _ => true) = true := fun n => by simp
  rw [this]; exact h
theorem ne_h {l b : Addr} {vs ws : List Value} {xs : List Str} {Q : Value → Shared → Prop} (hl : s.heap.IsList l vs.toArray) (hb : s.heap.IsList b ws.toArray) (hv : StrsAre vs xs) (hw : StrsAre ws xs) (hu : A.units < cLine) (h : Q (.bool false) s) :
    wpAny (model prog w) A (compareOp .NotEq (.ref l) (.ref b)) Q E s := by
  refine RcNeAt.lists (e := fun _ => true) hl hb (by simp [hv.length, hw.length]) hu (all_same hv hw) prog w E Q ?_
  have : ∀ n : Nat, (List.range n).all (fun _ => true) = true := fun n => by simp
  rw [this]; exact h
end
end Mine
end
section
/-! part P16 -/
open PySem PySem.W PyProof.Rows PySem.Spec PySem.SeqAt
set_option maxRecDepth 100000
namespace Mine
theorem kfill16 : (PySem.Challenge.rw_mr0080_01 = PySem.Challenge.rw_mr0080_01) ∧ (hd.heap_39 = hd.heap_39) := by
  k_fill; exact ⟨rfl, rfl⟩
/-- a row of names -/
structure RowOk (xs : List Str) : Prop where
  nm : ∀ x ∈ xs, Nm (tl x) ∧ Al (tl x)
  sum : (xs.map fun x => (tl x).length + 1).sum ≤ 400
theorem RowOk.len {xs : List Str} (h : RowOk xs) {x : Str} (hx : x ∈ xs) : (tl x).length ≤ 1000 := by
  have h1 := h.sum
  have : (tl x).length + 1 ≤ (xs.map fun x => (tl x).length + 1).sum := by
    clear h h1
    induction xs with
    | nil => cases hx
    | cons a r ih =>
      rw [List.map_cons, List.sum_cons]
      rcases List.mem_cons.mp hx with rfl | hx
      · omega
      · have := ih hx; omega
  omega
theorem two_split (xs : List Str) (p : Nat) (h : p + 1 < xs.length) : xs = xs.take p ++ xs[p] :: xs[p + 1] :: xs.drop (p + 2) := by
  conv => lhs; rw [← List.take_append_drop p xs]
  rw [List.drop_eq_getElem_cons (by omega), List.drop_eq_getElem_cons (by omega : p + 1 < xs.length)]
theorem merge_row (xs : List Str) (p : Nat) (h : p + 1 < xs.length) (y : Str) (hy : tl y = op (tl xs[p]) (tl xs[p + 1])) (R : RowOk xs) :
    (xs.take p ++ [y] ++ xs.drop (p + 2)).length + 1 = xs.length ∧ jn ((xs.take p ++ [y] ++ xs.drop (p + 2)).map tl) = jn (xs.map tl) ∧ RowOk (xs.take p ++ [y] ++ xs.drop (p + 2)) := by
  have e := two_split xs p h
  have ha := R.nm xs[p] (List.getElem_mem (by omega))
  have hb := R.nm xs[p + 1] (List.getElem_mem h)
  have hs := R.sum
  refine ⟨by simp; omega, ?_, ?_, ?_⟩
  · conv => rhs; rw [e]
    simp only [List.map_append, List.map_cons, List.map_nil]
    unfold jn
    simp only [List.foldl_append, List.foldl_cons, List.foldl_nil]
    rw [hy, op_assoc]
  · intro x hx
    rw [List.mem_append, List.mem_append] at hx
    rcases hx with (hx | hx) | hx
    · exact R.nm x (List.mem_of_mem_take hx)
    · rw [List.mem_singleton.mp hx, hy]; exact ⟨ha.1.op hb.1, op_al ha.2 hb.2⟩
    · exact R.nm x (List.mem_of_mem_drop hx)
  · rw [e] at hs
    simp only [List.map_append, List.map_cons, List.map_nil, List.sum_append, List.sum_cons, List.sum_nil] at hs ⊢
    have := op_len (tl xs[p]) (tl xs[p + 1])
    rw [hy]; omega
abbrev nRow : Str := Str.ofString "row"
abbrev nPlace : Str := Str.ofString "place"
abbrev nX : Str := Str.ofString "x"
abbrev nLen : Str := Str.ofString "len"
section
variable {prog : Program} {w : World} {A : Around} {E : Value → Shared → Prop} {s : Shared} {mg mb : Str → Option Value} {bm : Addr} {ob : Obj} {H0 : Heap} {cn : Str} {cs : Scope} {L a : Addr} {cd : Value} {h₀ : Heap} {m : Str → Option Value}
theorem Wd.len1 (W : Wd w mg mb bm ob H0) : mg nLen = none := mg_none_of W.X W.g (by k_is)
theorem Wd.len2 (W : Wd w mg mb bm ob H0) : mb nLen = some (.builtin "len") := (W.bi _ (by decide)).trans (by decide +kernel)
theorem list_ne_ns {h : Heap} {R L : Addr} {vs : Array Value} {m : Str → Option Value} (hR : h.IsList R vs) (F : h.Ns L m) : R ≠ L := fun q => by
  obtain ⟨o, e, hc, n, hd⟩ := hR
  obtain ⟨o2, es, ep, e2, hd2, _⟩ := F
  rw [q, e2] at e; cases e; rw [hd2] at hd; cases hd
theorem list_ne_16 {h : Heap} {R : Addr} {vs : Array Value} (hR : h.IsList R vs) (T : Tab h 20 16) : R ≠ 16 := fun q => by
  obtain ⟨o, e, hc, n, hd⟩ := hR
  obtain ⟨ps, _, hP, _⟩ := T
  rw [q, hP] at e; cases e; cases hc
theorem fr_keep {h h' : Heap} (F : Fr h₀ L h m) (k : ∀ b o, h.get? b = some o → h'.get? b = some o) : Fr h₀ L h' m := ⟨F.ns.at fun o e => k L o e, fun b o e => k b o (F.keep b o e), F.above⟩
theorem merged_turn (W : Wd w mg mb bm ob H0) {R : Addr} {vs : List Value} {xs : List Str} {x : Int} {tx : Tok} {k1 k2 k3 : Nat} {r1 r2 r3 r4 r5 r6 r7 r8 r9 r10 r11 r12 r13 r14 r15 r16 r17 r18 r19 r20 r21 r22 r23 r24 r25 r26 r27 r28 r29 r30 r31 r32 r33 r34 : Pos}
    {Q : Flow → Shared → Prop} (F : Fr h₀ L s.heap m) (G : Good H0 s) (h16 : h₀.get? 16 = none) (hL16 : L ≠ 16) (kH : ∀ b o, H0.get? b = some o → h₀.get? b = some o) (hmx : m nX = some (.int x tx)) (hmr : m nRow = some (.ref R))
    (hR : s.heap.IsList R vs.toArray) (hvs : StrsAre vs xs) (hok : RowOk xs) (hn2 : 2 ≤ xs.length) (hn10 : xs.length ≤ 10) (hh : A.handled = none) (hroom : A.depth + 1 < recursionLimit)
    (hk : cs.kind = .function) (l1 : (envOf cn cs L a cd).kindOf nX = some .local) (l2 : (envOf cn cs L a cd).kindOf nRow = some .local) (l3 : (envOf cn cs L a cd).kindOf nPlace = some .local) (l4 : (envOf cn cs L a cd).kindOf nLen = some .globalImplicit) (l5 : (envOf cn cs L a cd).kindOf nPlat = some .globalImplicit)
    (h : ∀ s' R' vs' xs' (vp : Value), Fr h₀ L s'.heap (fun y => if y = nRow then some (.ref R') else if y = nPlace then some vp else m y) → Good H0 s' → (∀ b o, b ≠ 16 → b ≠ L → s.heap.get? b = some o → s'.heap.get? b = some o) → s'.os = s.os →
      s'.heap.IsList R' vs'.toArray → StrsAre vs' xs' → RowOk xs' → xs'.length + 1 = xs.length → jn (xs'.map tl) = jn (xs.map tl) → Q .next s') :
    wpAny (model prog w) A (execs [
      .Assign [.Name nPlace r1] (.BinOp (.Name nX r2) .Mod (.BinOp (.Call (.Name nLen r3) [.Name nRow r4] [] r5) .Sub (.Constant (.int 1) k1 r6) r7) r8) r9,
      .Assign [.Name nRow r10] (.BinOp (.BinOp (.Subscript (.Name nRow r11) (.Slice none (some (.Name nPlace r12)) none r13) r14) .Add
          (.List [.Call (.Name nPlat r15) [.Subscript (.Name nRow r16) (.Name nPlace r17) r18, .Subscript (.Name nRow r19) (.BinOp (.Name nPlace r20) .Add (.Constant (.int 1) k2 r21) r22) r23] [] r24] r25) r26) .Add
          (.Subscript (.Name nRow r27) (.Slice (some (.BinOp (.Name nPlace r28) .Add (.Constant (.int 2) k3 r29) r30)) none none r31) r32) r33) r34] (envOf cn cs L a cd)) Q E s := by
  have hvl : vs.length = xs.length := hvs.length
  have hsz : vs.toArray.size = xs.length := by simp [hvl]
  have hRL := list_ne_ns hR F.ns
  have hR16 := list_ne_16 hR G.tab
  have hL0 : H0.get? L = none := by
    cases e : H0.get? L with
    | none => rfl
    | some o => have q := kH _ _ e; rw [Heap.get?_none_of_le F.above] at q; cases q
  have goodL : ∀ {s1 s2 : Shared}, Good H0 s1 → Heap.SameBut L s1.heap s2.heap → s2.gens = s1.gens → Good H0 s2 := fun G1 S1 e => Good.but W (wr := [L]) G1 (fun b hb => by rw [List.mem_singleton.mp hb]; exact hL0) (fun q => hL16 (List.mem_singleton.mp q).symm) (fun b o hb e => S1.extBut b o (fun q => hb (by simp [q])) e) (e ▸ G1.bare)
  have goodK : ∀ {s1 s2 : Shared}, Good H0 s1 → (∀ b o, s1.heap.get? b = some o → s2.heap.get? b = some o) → s2.gens = s1.gens → Good H0 s2 := fun G1 k e => Good.but W (wr := []) G1 (fun _ h => nomatch h) (fun h => nomatch h) (fun b o _ e => k b o e) (e ▸ G1.bare)
  refine wpAny_execs_cons (wpAny_Assign_Name (wpAny_BinOp (ld F hmx ?_ hk l1 (by decide))))
  refine wpAny_BinOp (Call_ ?_)
  refine ld_builtin_at F (W.g.keeps kH) W.len1 (W.b.keeps kH) W.len2 ?_ hk l4
  refine PyProof.Rows.callWith_builtin1 ?_
  refine spliced_more (ld F hmr ?_ hk l2 (by decide))
  refine spliced_none ?_
  refine len_list hR (by rw [hsz]; omega) ?_
  refine wpAny_Constant_int ?_
  refine PyProof.Rows.sub_int ?_
  rw [hsz]
  refine PyProof.Rows.mod_int (by omega) ?_
  have hp0 : 0 ≤ x.fmod ((xs.length : Int) - 1) := Int.fmod_nonneg_of_pos x (by omega)
  have hp1 : x.fmod ((xs.length : Int) - 1) < (xs.length : Int) - 1 := Int.fmod_lt_of_pos x (by omega)
  generalize hp : x.fmod ((xs.length : Int) - 1) = p at hp0 hp1 ⊢
  obtain ⟨pn, rfl⟩ : ∃ pn : Nat, p = (pn : Int) := ⟨p.toNat, by omega⟩
  have hpn : pn + 1 < xs.length := by omega
  refine stK (s := ⟨s.heap, _, _, _, _⟩) F (fun h1 F1 S1 => ?_) hk l3
  have G1 : ∀ tk, Good H0 ⟨h1, s.gens, s.drawn, tk, s.os⟩ := fun tk => goodL (s1 := s) G S1 rfl
  have R1 : h1.IsList R vs.toArray := hR.at fun o e => S1.extBut _ _ hRL e
  -- row[:place]
  refine wpAny_execs_cons (wpAny_Assign_Name (wpAny_BinOp (wpAny_BinOp (Subscript_ (ld (s := ⟨h1, _, _, _, _⟩) F1 ((if_neg (by decide)).trans hmr) ?_ hk l2 (by decide))))))
  refine wpAny_Slice ?_
  refine evalPart_none_step (evalPart_some_step (ld (s := ⟨h1, _, _, _, _⟩) F1 (if_pos rfl) (evalPart_none_step ?_) hk l3 (by decide)))
  refine slice_h (s := ⟨h1, _, _, _, _⟩) R1 .none (.int _ _) .none (by simp) (by rw [hsz, sizeLine_eq]; omega) (fun h2 k2 z2 i2 => ?_)
  rw [slicePick_upto'] at i2
  dsimp only at k2 z2 i2 ⊢
  have F2 := fr_keep F1 k2
  have G2 : ∀ tk, Good H0 ⟨h2, s.gens, s.drawn, tk, s.os⟩ := fun tk => goodK (G1 tk) k2 rfl
  have R2 : h2.IsList R vs.toArray := R1.at fun o e => k2 _ _ e
  -- [_platform(row[place], row[place + 1])]
  obtain ⟨t1, e1⟩ := hvs.get pn xs[pn] (List.getElem?_eq_getElem (by omega))
  obtain ⟨t2, e2⟩ := hvs.get (pn + 1) xs[pn + 1] (List.getElem?_eq_getElem hpn)
  refine List_ (spliced_more (Call_ ?_))
  refine ld_global_at (s := ⟨h2, _, _, _, _⟩) F2 (W.g.keeps kH) W.plat ?_ hk l5 (by decide)
  have hfn := Fn21 W (G2 0).keep
  refine callWith_F (s := ⟨h2, _, _, _, _⟩) hfn ?_
  refine spliced_more (Subscript_ (ld (s := ⟨h2, _, _, _, _⟩) F2 ((if_neg (by decide)).trans hmr) ?_ hk l2 (by decide)))
  refine ld (s := ⟨h2, _, _, _, _⟩) F2 (if_pos rfl) ?_ hk l3 (by decide)
  refine item_listL (s := ⟨h2, _, _, _, _⟩) R2 (by omega) (by omega) (x := .str xs[pn] t1) (by simpa using e1) ?_
  refine spliced_more (Subscript_ (ld (s := ⟨h2, _, _, _, _⟩) F2 ((if_neg (by decide)).trans hmr) ?_ hk l2 (by decide)))
  refine wpAny_BinOp (ld (s := ⟨h2, _, _, _, _⟩) F2 (if_pos rfl) ?_ hk l3 (by decide))
  refine wpAny_Constant_int ?_
  refine PyProof.Rows.add_int ?_
  refine item_listL (s := ⟨h2, _, _, _, _⟩) R2 (by omega) (by omega) (x := .str xs[pn + 1] t2) (by rw [show ((pn : Int) + 1).toNat = pn + 1 from by omega]; exact e2) ?_
  refine spliced_none ⟨hfn, ?_⟩
  have hm1 : xs[pn] ∈ xs := List.getElem_mem (by omega)
  have hm2 : xs[pn + 1] ∈ xs := List.getElem_mem hpn
  refine plat_two (s := ⟨h2, s.gens, s.drawn, _, s.os⟩) W (G2 _) ⟨(hok.nm _ hm1).1, (hok.nm _ hm1).2, hok.len hm1⟩ ⟨(hok.nm _ hm2).1, (hok.nm _ hm2).2, hok.len hm2⟩ hh hroom fun y ty s3 G3 k3 z3 o3 ey => ?_
  have F3 := fr_kp F2 h16 hL16 k3
  have R3 : s3.heap.IsList R vs.toArray := R2.at fun o e => k3 _ _ hR16 e
  have hi16 : (h1.objs.size + 1) ≠ 16 := list_ne_16 i2 (G2 0).tab
  have i3 := i2.at fun o e => k3 _ _ hi16 e
  refine spliced_none ?_
  refine wpAny_newObj_type ?_ (by size_fits)
  have k4 : ∀ b o, s3.heap.get? b = some o → (s3.heap.push (listObj #[.str y ty])).get? b = some o := fun b o e => Heap.get?_push_of_some _ e
  have i4 : (s3.heap.push (listObj #[.str y ty])).IsList s3.heap.objs.size [Value.str y ty].toArray := isList_new _
  refine add_h (s := { s3 with heap := s3.heap.push (listObj #[.str y ty]) }) (i3.at fun o e => k4 _ _ e) i4 (by rw [sizeLine_eq]; simp; omega) (fun h5 k5 z5 i5 => ?_)
  have k35 : ∀ b o, s3.heap.get? b = some o → h5.get? b = some o := fun b o e => k5 b o (k4 b o e)
  have F5 := fr_keep F3 k35
  have R5 := R3.at fun o e => k35 _ o e
  dsimp only at i5 ⊢
  -- row[place + 2:]
  refine Subscript_ (ld (s := { s3 with heap := h5 }) F5 ((if_neg (by decide)).trans hmr) ?_ hk l2 (by decide))
  refine wpAny_Slice ?_
  refine evalPart_some_step (wpAny_BinOp (ld (s := { s3 with heap := h5 }) F5 (if_pos rfl) ?_ hk l3 (by decide)))
  refine wpAny_Constant_int ?_
  refine PyProof.Rows.add_int ?_
  refine evalPart_none_step (evalPart_none_step ?_)
  refine slice_h (s := ⟨h5, _, _, _, _⟩) R5 (.int _ _) .none .none (by simp) (by rw [hsz, sizeLine_eq]; omega) (fun h6 k6 z6 i6 => ?_)
  dsimp only at k6 z6 i6 ⊢
  rw [show ((pn : Int) + 2) = ((pn + 2 : Nat) : Int) from by omega, slicePick_from'] at i6
  refine add_h (s := ⟨h6, _, _, _, _⟩) (i5.at fun o e => k6 _ _ e) i6 (by rw [sizeLine_eq]; simp; omega) (fun h7 k7 z7 i7 => ?_)
  dsimp only at k7 z7 i7 ⊢
  have k37 : ∀ b o, s3.heap.get? b = some o → h7.get? b = some o := fun b o e => k7 b o (k6 b o (k35 b o e))
  have F7 := fr_keep F3 k37
  have G7 : Good H0 ⟨h7, s3.gens, s3.drawn, s3.toks + 1, s3.os⟩ := goodK G3 k37 rfl
  refine stK (s := ⟨h7, _, _, _, _⟩) F7 (fun h8 F8 S8 => ?_) hk l2
  refine wpAny_execs_nil ?_
  have mr := merge_row xs pn hpn y ey hok
  refine h _ h6.objs.size _ _ _ F8 (goodL G7 S8 rfl) (fun b o hb hbL e => S8.extBut b o hbL (k37 b o (k3 b o hb (k2 b o (S1.extBut b o hbL e))))) o3 (i7.at fun o e => S8.extBut _ _ ?_ e) ((((hvs.take' pn).append' (.cons y ty .nil)).append' (hvs.drop' (pn + 2)))) mr.2.2 mr.1 mr.2.1
  exact list_ne_ns i7 F7.ns
end
end Mine
end
section
/-! part P17 -/
open PySem PySem.W PyProof.Rows PySem.Spec PySem.SeqAt
set_option maxRecDepth 100000
namespace Mine
theorem kfill17 : (PySem.Challenge.rw_mr0080_01 = PySem.Challenge.rw_mr0080_01) ∧ (hd.heap_39 = hd.heap_39) := by
  k_fill; exact ⟨rfl, rfl⟩
section
variable {prog : Program} {w : World} {A : Around} {E : Value → Shared → Prop} {s : Shared} {mg mb : Str → Option Value} {bm : Addr} {ob : Obj} {H0 : Heap}
theorem merged_spec (W : Wd w mg mb bm ob H0) {l r : Addr} {vs is : List Value} {xs : List Str} {ns : List Int} {Q : Value → Shared → Prop}
    (G : Good H0 s) (hl : s.heap.IsList l vs.toArray) (hvs : StrsAre vs xs) (hok : RowOk xs) (hr : s.heap.IsList r is.toArray) (his : IntsAre is ns) (hn : ns.length + 1 = xs.length) (hn10 : xs.length ≤ 10) (hh : A.handled = none) (hroom : A.depth + 2 < recursionLimit)
    (hQ : ∀ R y t s', Good H0 s' → Kp s.heap s'.heap → s.heap.objs.size ≤ s'.heap.objs.size → s'.os = s.os → s'.heap.IsList R #[.str y t] → tl y = jn (xs.map tl) → Q (.ref R) s') :
    wpAny (model prog w) A (call (.ref 51) [.ref l, .ref r]) Q E s := by
  refine wpAny_call ?_
  have X := W.X
  have ho := G.keep _ _ (X 51 _ (by k_is))
  refine call_plain (by omega) ho rfl (W.lim.keeps G.keep) ((codeRec_of X (by k_is)).keeps G.keep) rfl (locs rfl) (fun h1 F0 => ?_)
  clear ho
  obtain ⟨ps, C, hP16, ht⟩ := G.tab
  have h16lt := ltA (a := 16) (b := s.heap.objs.size) (Heap.lt_size hP16)
  have n16 : ∀ b o, H0.get? b = some o → b ≠ 16 := fun b o e q => by rw [q, W.n16] at e; cases e
  have kH : ∀ b o, H0.get? b = some o → (s.heap.hide 16).get? b = some o := fun b o e => (Heap.hide_ne _ (n16 b o e)).trans (G.keep b o e)
  have F : Fr (s.heap.hide 16) s.heap.objs.size h1 _ := ⟨F0.ns, fun b o e => F0.keep b o (Heap.of_hide e), Nat.le_of_eq (Heap.hide_size _ 16)⟩
  have hb0 : ∀ b o, b ≠ 16 → s.heap.get? b = some o → (s.heap.hide 16).get? b = some o := fun b o hb e => (Heap.hide_ne _ hb).trans e
  have G1 : Good H0 { s with heap := h1, toks := s.toks + 2 } := ⟨fun b o e => F0.keep b o (G.keep b o e), ⟨ps, W.codeHd fun b o e => F0.keep b o (G.keep b o e), F0.keep _ _ hP16, ht⟩, G.bare⟩
  have hp16 : (s.heap.hide 16).get? 16 = none := Heap.hide_self _ 16
  have hl16 : l ≠ 16 := list_ne_16 hl G.tab
  have hr16 : r ≠ 16 := list_ne_16 hr G.tab
  have hl0 : (s.heap.hide 16).IsList l vs.toArray := hl.at fun o e => hb0 _ _ hl16 e
  have hr0 : (s.heap.hide 16).IsList r is.toArray := hr.at fun o e => hb0 _ _ hr16 e
  have hsz0 : (s.heap.hide 16).objs.size = s.heap.objs.size := Heap.hide_size _ 16
  have hL16 : s.heap.objs.size ≠ 16 := neA (by omega)
  have hrL : r < s.heap.objs.size := by obtain ⟨o, e, _⟩ := hr; exact Heap.lt_size e
  have hrL' := ltA (a := r) (b := s.heap.objs.size) hrL
  have hvl := hvs.length
  have hil := his.length
  generalize hL : s.heap.objs.size = L at *
  generalize hh0 : s.heap.hide 16 = h0 at *
  have noH : ∀ {b : Addr}, h0.get? b = none → H0.get? b = none := fun {b} hb => by
    cases e : H0.get? b with
    | none => rfl
    | some o => have q := kH _ _ e; rw [hb] at q; cases q
  have hL0 : H0.get? L = none := noH (Heap.get?_none_of_le F.above)
  have goodL : ∀ {s1 s2 : Shared}, Good H0 s1 → Heap.SameBut L s1.heap s2.heap → s2.gens = s1.gens → Good H0 s2 := fun G1 S1 e => Good.but W (wr := [L]) G1 (fun b hb => by rw [List.mem_singleton.mp hb]; exact hL0) (fun q => hL16 (List.mem_singleton.mp q).symm) (fun b o hb e => S1.extBut b o (fun q => hb (by simp [q])) e) (e ▸ G1.bare)
  -- row = names
  refine wpAny_execs_cons (wpAny_Assign_Name (ld (s := ⟨h1, _, _, _, _⟩) F (v := .ref l) rfl ?_ rfl rfl (by decide)))
  refine stK (s := ⟨h1, _, _, _, _⟩) F (fun h2 F2 S2 => ?_) rfl rfl
  have G2 : Good H0 ⟨h2, s.gens, s.drawn, s.toks + 2 + 1, s.os⟩ := goodL G1 S2 rfl
  -- for x in numbers
  refine wpAny_execs_cons (wpAny_For ?_)
  refine ld (s := ⟨h2, _, _, _, _⟩) F2 (v := .ref r) ((if_neg (by decide)).trans rfl) ?_ rfl rfl (by decide)
  refine wpAny_pyIter_list (s := ⟨h2, _, _, _, _⟩) (hr0.at fun o e => F2.keep _ _ e) ?_
  have hJL := ltA (a := L) (b := h2.objs.size) F2.ns.lt
  have hJ0 : h0.get? h2.objs.size = none := Heap.get?_none_of_le (Nat.le_of_lt (by rw [hsz0]; exact hJL))
  have F3 := F2.push { cls := .type "list_iterator", data := .fields #[.ref r, .int 0 0] }
  have G3 : Good H0 ⟨h2.push { cls := .type "list_iterator", data := .fields #[.ref r, .int 0 0] }, s.gens, s.drawn, s.toks + 2 + 1, s.os⟩ := Good.but W (wr := []) G2 (fun _ h => nomatch h) (fun h => nomatch h) (fun b o _ e => Heap.get?_push_of_some _ e) G.bare
  have st3 : (h2.push { cls := .type "list_iterator", data := .fields #[.ref r, .int 0 0] }).IsListIter h2.objs.size r 0 := ⟨_, Heap.get?_push_size h2 (o := { cls := .type "list_iterator", data := .fields #[.ref r, .int 0 0] }) rfl, rfl, rfl⟩
  dsimp only at F3 G3 st3 ⊢
  generalize h2.push { cls := .type "list_iterator", data := .fields #[.ref r, .int 0 0] } = h3 at *
  generalize hJ : h2.objs.size = J at *
  have hJ16 : J ≠ 16 := neA (by omega)
  have hLJ : L ≠ J := neA (by omega)
  have hrJ : r ≠ J := neA (by omega)
  have hrLn : r ≠ L := neA (by omega)
  have goodJ : ∀ {s1 s2 : Shared}, Good H0 s1 → Heap.ExtBut J s1.heap s2.heap → s2.gens = s1.gens → Good H0 s2 := fun G1 S1 e => Good.but W (wr := [J]) G1 (fun b hb => by rw [List.mem_singleton.mp hb]; exact noH hJ0) (fun q => hJ16 (List.mem_singleton.mp q).symm) (fun b o hb e => S1 b o (fun q => hb (by simp [q])) e) (e ▸ G1.bare)
  refine codeAny_forLoop (fun n s' => ∃ i m' R vs' xs', i + n = ns.length ∧ Fr h0 L s'.heap m' ∧ Good H0 s' ∧ s'.os = s.os ∧ s'.heap.IsListIter J r i ∧ m' nRow = some (.ref R) ∧ s'.heap.IsList R vs'.toArray ∧ StrsAre vs' xs' ∧ RowOk xs' ∧ xs'.length + i = xs.length ∧ jn (xs'.map tl) = jn (xs.map tl)) ?_ ns.length
    ⟨0, _, l, vs, xs, Nat.zero_add _, F3, G3, rfl, st3, if_pos rfl, hl0.at fun o e => F3.keep _ _ e, hvs, hok, rfl, rfl⟩
  rintro n s' ⟨i, m', R, vs', xs', hi, F', G', hos', st', hm', hR', hvs', hok', hlen', hjn'⟩
  have hRJ : R ≠ J := fun q => by
    obtain ⟨o, e, hc, nn, hd⟩ := hR'
    obtain ⟨o2, e2, hc2, hd2⟩ := st'
    rw [q, e2] at e; cases e; rw [hd2] at hd; cases hd
  cases n with
  | zero =>
    have hnn : is.toArray[i]? = none := by simp; omega
    refine wpAny_pyNext_list_end hh st' (hr0.at fun o e => F'.keep _ _ e) hnn fun h4 hx4 => ?_
    have F4 := fr_walk F' hx4 hLJ hJ0
    have G4 : Good H0 { s' with heap := h4 } := goodJ G' hx4 rfl
    have hR4 : h4.IsList R vs'.toArray := hR'.at fun o e => hx4 _ _ hRJ e
    refine wpAny_execs_nil ?_
    refine wpAny_execs_cons (wpAny_Return_some ?_)
    refine ld (s := { s' with heap := h4 }) F4 hm' ?_ rfl rfl (by decide)
    have h1 : xs'.length = 1 := by omega
    obtain ⟨y, rfl⟩ := List.length_eq_one_iff.mp h1
    obtain ⟨ty, vs2, rfl, hv2⟩ := hvs'.cons_inv
    obtain rfl := hv2.nil_inv
    refine hQ R y ty _ G4 (fun b o hb e => F4.keep b o (hb0 b o hb e)) (Nat.le_of_lt F4.ns.lt) hos' hR4 ?_
    rw [← hjn']
    simp [jn, op_nil_left]
  | succ n =>
    have hlt : i < ns.length := by omega
    obtain ⟨tx, htx⟩ := his.get i ns[i] (List.getElem?_eq_getElem hlt)
    refine wpAny_pyNext_list_item st' (hr0.at fun o e => F'.keep _ _ e) (x := .int ns[i] tx) (by simpa using htx) fun h4 hit4 hs4 => ?_
    have F4 := fr_walk F' hs4.extBut hLJ hJ0
    have G4 : Good H0 { s' with heap := h4 } := goodJ G' hs4.extBut rfl
    have hR4 : h4.IsList R vs'.toArray := hR'.at fun o e => hs4.extBut _ _ hRJ e
    refine wpAny_assign_Name (stK (s := { s' with heap := h4 }) F4 (fun h5 F5 S5 => ?_) rfl rfl)
    have G5 : Good H0 { s' with heap := h5, toks := s'.toks + 1 } := goodL G4 S5 rfl
    have hRL := list_ne_ns hR4 F4.ns
    have hR5 : h5.IsList R vs'.toArray := hR4.at fun o e => S5.extBut _ _ hRL e
    have hit5 : h5.IsListIter J r (i + 1) := hit4.at fun o e => S5.extBut _ _ (Ne.symm hLJ) e
    refine merged_turn (s := { s' with heap := h5, toks := s'.toks + 1 }) (x := ns[i]) (R := R) W F5 G5 hp16 hL16 kH (if_pos rfl) ((if_neg (by decide)).trans hm') hR5 hvs' hok' (by omega) (by omega) hh (by show A.depth + 1 + 1 < recursionLimit; omega) rfl rfl rfl rfl rfl rfl
      fun s6 R6 vs6 xs6 vp F6 G6 k6 o6 hR6 hvs6 hok6 hlen6 hjn6 => ?_
    refine ⟨n, Nat.lt_succ_self _, i + 1, _, R6, vs6, xs6, by omega, F6, G6, o6.trans hos', hit5.at fun o e => k6 _ _ hJ16 (Ne.symm hLJ) e, if_pos rfl, hR6, hvs6, hok6, by omega, hjn6.trans hjn'⟩
end
end Mine
end
section
/-! part P18 -/
open PySem PySem.W PyProof.Rows PySem.Spec PySem.SeqAt
set_option maxRecDepth 100000
namespace Mine
section
variable {prog : Program} {w : World} {A : Around} {E : Value → Shared → Prop} {mg mb : Str → Option Value} {bm : Addr} {ob : Obj} {H0 : Heap} {env : Env}
theorem GL.lt53 {s : Shared} (G : GL H0 s) : @LT.lt Nat instLTNat 53 s.heap.objs.size := by
  obtain ⟨ps, _, hP, _⟩ := G.tab; exact Heap.lt_size hP
theorem GL.none_of {s : Shared} (G : GL H0 s) {b : Addr} (h : s.heap.get? b = none) : H0.get? b = none := by
  cases e : H0.get? b with
  | none => rfl
  | some o => have q := G.good.keep _ _ e; rw [h] at q; cases q
theorem isList_lt {h : Heap} {D : Addr} {ys : Array Value} (x : h.IsList D ys) : D < h.objs.size := by obtain ⟨o, e, _⟩ := x; exact Heap.lt_size e
/-- what is the same but for the tables and the addresses of wr -/
abbrev Kw (wr : List Addr) (h h' : Heap) : Prop := ∀ b o, b ∉ wr → b ≠ 16 → b ≠ 53 → h.get? b = some o → h'.get? b = some o
/-- a list comprehension whose element may call the program -/
theorem comp_block {elt iter : Expr} {x : Str} {px : Pos} {scope : Scope} {cl : List (Str × Addr)} {pos : Pos} {s₂ : Shared} {J : Addr} {fp wr : List Addr} {n : Nat} {P : Nat → Value → Prop} {St : Nat → Heap → Prop}
    (W : Wd w mg mb bm ob H0) (Wk : Walks prog w A J fp wr n P St) (hsz : n ≤ sizeLine) (T : Nat → Value → Prop) {RR : Value → Addr → Result → Shared → Prop}
    (hcell : ∀ y ∈ scope.names, y.2 ≠ .cell) (hkind : scope.kind = .function) (hx : scope.names.lookup x = some .local) (hst : St 0 s₂.heap) (hfp : ∀ b ∈ fp, b < s₂.heap.objs.size) (G2 : GL H0 s₂) (h16 : 16 ∉ fp) (h53 : 53 ∉ fp)
    (hwH : ∀ b ∈ wr, H0.get? b = none) (hnc : ∀ i h, St i h → ∀ b ∈ wr, NotCd h b)
    (helt : ∀ C i v s₃ m₃ E' Q', s₂.heap.objs.size ≤ C → i < n → P i v → s₃.heap.Ns C m₃ → m₃ x = some v → GL H0 s₃ → Kw wr s₂.heap s₃.heap →
      (∀ y s₄, T i y → GL H0 s₄ → K2 s₃.heap s₄.heap → s₃.heap.objs.size ≤ s₄.heap.objs.size → s₄.os = s₃.os → Q' y s₄) → wpAny (model prog w) A (eval elt (compEnvC scope cl C env)) Q' E' s₃)
    (hRR : ∀ D C s' m' ys, s₂.heap.objs.size ≤ D → s₂.heap.get? C = none → D ≠ C → s'.heap.Ns C m' → s'.heap.IsList D ys → ys.size = n → (∀ i y, ys[i]? = some y → T i y) → GL H0 s' → Kw wr s₂.heap s'.heap → s₂.heap.objs.size ≤ s'.heap.objs.size → s'.os = s₂.os → RR (.ref D) C (.ok .next) s') :
    wpAny (model prog w) A (newList []) (fun acc s₃ => wpAny (model prog w) A (newFunctionEnv scope env.globals cl [] env.qual none .none (some env)) (fun cenv s₄ =>
      codeAny (model prog w) A (.compStart (.ListComp elt [⟨.Name x px, iter, [], 0⟩] scope pos) 0 (.ref J) acc { cenv with scope := relabel scope env }) (RR acc cenv.locals) s₄) E s₃) E s₂ := by
  refine wpAny_newObj_type (wpAny_newFunctionEnv hcell (by intro y hy; simp at hy) (fun h₁ hns₁ hsb₁ => ?_) hkind)
  dsimp only at hns₁ hsb₁ ⊢
  generalize hH2 : s₂.heap.push { cls := .type "list", dict := none, data := .seq ([] : List Value).toArray } = H2 at hns₁ hsb₁ ⊢
  have hC : H2.objs.size = s₂.heap.objs.size + 1 := by rw [← hH2, Heap.size_push]
  have hDC : s₂.heap.objs.size ≠ H2.objs.size := by rw [hC]; exact Nat.ne_of_lt (Nat.lt_succ_self _)
  have hCle : s₂.heap.objs.size ≤ H2.objs.size := by rw [hC]; exact Nat.le_succ _
  have below : ∀ b, b < s₂.heap.objs.size → b ≠ H2.objs.size ∧ b ≠ s₂.heap.objs.size := fun b hb => ⟨by rw [hC]; exact Nat.ne_of_lt (Nat.lt_succ_of_lt hb), Nat.ne_of_lt hb⟩
  have hDf : s₂.heap.objs.size ∉ fp := fun hm => Nat.lt_irrefl _ (hfp _ hm)
  have hCf : H2.objs.size ∉ fp := fun hm => by have := hfp _ hm; rw [hC] at this; exact Nat.lt_irrefl _ (Nat.lt_of_succ_lt this)
  have old : ∀ b o, s₂.heap.get? b = some o → h₁.get? b = some o := fun b o e => hsb₁.extBut b o (below b (Heap.lt_size e)).1 (Heap.get?_push_of_some _ (hH2 ▸ Heap.get?_push_of_some _ e))
  have hacc : h₁.IsList s₂.heap.objs.size #[] := ⟨_, hsb₁.extBut _ _ hDC (Heap.get?_push_of_some _ (hH2 ▸ Heap.get?_push_size _ rfl)), rfl, _, rfl⟩
  have hst₁ : St 0 h₁ := Wk.frame _ _ _ hst fun b _ o e => old b o e
  have fresh : ∀ a, s₂.heap.objs.size ≤ a → s₂.heap.get? a = none := fun a ha => by
    cases e : s₂.heap.get? a with
    | none => rfl
    | some o' => exact absurd (Heap.lt_size e) (Nat.not_lt.mpr ha)
  have h53lt := G2.lt53
  have hD0 : H0.get? s₂.heap.objs.size = none := G2.none_of (fresh _ (Nat.le_refl _))
  have hC0 : H0.get? H2.objs.size = none := G2.none_of (fresh _ hCle)
  have hC' : @Eq Nat H2.objs.size (s₂.heap.objs.size + 1) := hC
  have hD16 : s₂.heap.objs.size ≠ 16 := neA (by omega)
  have hD53 : s₂.heap.objs.size ≠ 53 := neA (by omega)
  have hC16 : H2.objs.size ≠ 16 := neA (by omega)
  have hC53 : H2.objs.size ≠ 53 := neA (by omega)
  have hDgen : s₂.heap.objs.size = s₂.heap.objs.size := rfl
  generalize hDD : s₂.heap.objs.size = D at *
  generalize hCC : H2.objs.size = C at *
  have lt2 : ∀ b o, s₂.heap.get? b = some o → b < D := fun b o e => hDD ▸ Heap.lt_size e
  have G1 : ∀ tk, GL H0 ⟨h₁, s₂.gens, s₂.drawn, tk, s₂.os⟩ := fun tk => GL.but W (wr := []) G2 (fun _ h => nomatch h) (fun h => nomatch h) (fun h => nomatch h) (fun _ h => nomatch h) (fun b o _ e => old b o e) G2.good.bare
  have mem1 : ∀ {a b : Addr}, b ∈ [a] → b = a := fun h => List.mem_singleton.mp h
  have loop : ∀ s₃ : Shared, (∃ tk, s₃ = ⟨h₁, s₂.gens, s₂.drawn, tk, s₂.os⟩) →
      codeAny (model prog w) A (.compLoop (.ListComp elt [⟨.Name x px, iter, [], 0⟩] scope pos) 0 (.ref J) (.ref D) (compEnvC scope cl C env)) (RR (.ref D) C) s₃ := by
    rintro s₃ ⟨tk₃, rfl⟩
    refine codeAny_compLoop_list (fun k s' => ∃ i m' ys, i + k = n ∧ St i s'.heap ∧ s'.heap.IsList D ys ∧ s'.heap.Ns C m' ∧ ys.size = i ∧ (∀ j y, ys[j]? = some y → T j y) ∧ GL H0 s' ∧ Kw wr s₂.heap s'.heap ∧ D ≤ s'.heap.objs.size ∧ s'.os = s₂.os) ?_ n
      ⟨0, _, #[], Nat.zero_add _, hst₁, hacc, hns₁, rfl, fun j y e => by simp at e, G1 _, fun b o _ _ _ e => old b o e, Nat.le_of_lt (isList_lt hacc), rfl⟩
    rintro k s' ⟨i, m', ys, hi, st', hl', hn', hys, hT, G', k', z', o'⟩
    have hDw : ∀ b ∈ wr, b ≠ D := fun b hb q => hDf (q ▸ Wk.sub _ hb)
    have hCw : ∀ b ∈ wr, b ≠ C := fun b hb q => hCf (q ▸ Wk.sub _ hb)
    have wr16 : 16 ∉ wr := fun q => h16 (Wk.sub _ q)
    have wr53 : 53 ∉ wr := fun q => h53 (Wk.sub _ q)
    cases k with
    | zero =>
      obtain rfl : i = n := by omega
      refine Wk.done s' _ _ st' fun h4 tk hk4 => ?_
      have G4 : GL H0 { s' with heap := h4, toks := tk } := GL.but W G' hwH wr16 wr53 (hnc _ _ st') hk4 G'.good.bare
      exact hRR D C { s' with heap := h4, toks := tk } m' ys (Nat.le_refl _) (fresh _ hCle) hDC (hn'.at' fun o e => hk4 C o (fun q => hCw C q rfl) e) (hl'.at fun o e => hk4 D o (fun q => hDw D q rfl) e) hys hT G4 (fun b o hb h1 h2 e => hk4 b o hb (k' b o hb h1 h2 e))
        (Nat.le_of_lt (isList_lt (hl'.at fun o e => hk4 D o (fun q => hDw D q rfl) e))) o'
    | succ k =>
      refine Wk.item i s' _ _ (by omega) st' fun v h4 tk hP st4 hk4 => ?_
      have G4 : GL H0 { s' with heap := h4, toks := tk } := GL.but W G' hwH wr16 wr53 (hnc _ _ st') hk4 G'.good.bare
      have hn4 := hn'.at' fun o e => hk4 C o (fun q => hCw C q rfl) e
      have hl4 := hl'.at fun o e => hk4 D o (fun q => hDw D q rfl) e
      refine wpAny_assign_Name (wpAny_storeName_local (s := { s' with heap := h4, toks := tk }) (env := compEnvC scope cl C env) (lookup_relabel_local hx) hn4 (fun h5 hn5 hs5 => ?_) (by simp [compEnvC, relabel, hkind]))
      have hs5' : Heap.SameBut C h4 h5 := hs5
      have G5 : GL H0 { s' with heap := h5, toks := tk + 1 } := GL.but W (wr := [C]) G4 (fun b hb => by rw [mem1 hb]; exact hC0) (fun q => hC16 (mem1 q).symm) (fun q => hC53 (mem1 q).symm) (fun b hb => by rw [mem1 hb]; exact NotCd.ns hn4) (fun b o hb e => hs5'.extBut b o (fun q => hb (by simp [q])) e) G4.good.bare
      have st5 : St (i + 1) h5 := Wk.frame _ _ _ st4 fun b hb o e => hs5'.extBut b o (fun q => hCf (q ▸ hb)) e
      have hl5 : h5.IsList D ys := hl4.at fun o e => hs5'.extBut _ _ hDC e
      refine helt C i v { s' with heap := h5, toks := tk + 1 } _ _ _ hCle (by omega) hP hn5 (if_pos rfl) G5 (fun b o hb h1 h2 e => hs5'.extBut b o (below b (lt2 b o e)).1 (hk4 b o hb (k' b o hb h1 h2 e))) fun y s₆ hy G6 k6 z6 o6 => ?_
      have hl6 := hl5.at fun o e => k6 _ o hD16 hD53 e
      have hn6 := hn5.at' fun o e => k6 C o hC16 hC53 e
      have st6 : St (i + 1) s₆.heap := Wk.frame _ _ _ st5 fun b hb o e => k6 b o (fun q => h16 (q ▸ hb)) (fun q => h53 (q ▸ hb)) e
      refine wpAny_list_append (hsz := by omega) hl6 fun h7 hl7 hs7 => ?_
      refine ⟨k, Nat.lt_succ_self _, i + 1, _, ys.push y, by omega, ?_, hl7, hn6.sameBut hs7 (Ne.symm hDC), by simp [hys], fun j z e => ?_, ?_, ?_, ?_, o6.trans o'⟩
      · exact Wk.frame _ _ _ st6 fun b hb o e => hs7.extBut b o (fun q => hDf (q ▸ hb)) e
      · rw [Array.getElem?_push] at e
        split at e
        · rename_i q; cases e; rw [q, hys]; exact hy
        · exact hT j z e
      · exact GL.but W (wr := [D]) G6 (fun b hb => by rw [mem1 hb]; exact hD0) (fun q => hD16 (mem1 q).symm) (fun q => hD53 (mem1 q).symm) (fun b hb => by rw [mem1 hb]; exact NotCd.list hl6) (fun b o hb e => hs7.extBut b o (fun q => hb (by simp [q])) e) G6.good.bare
      · exact fun b o hb h1 h2 e => hs7.extBut b o (below b (lt2 b o e)).2 (k6 b o h1 h2 (hs5'.extBut b o (below b (lt2 b o e)).1 (hk4 b o hb (k' b o hb h1 h2 e))))
      · exact Nat.le_of_lt (isList_lt hl7)
  exact codeAny_compStart_list (loop _ ⟨_, rfl⟩) (Wk.self 0 _ _ _ hst₁ (loop _ ⟨_, rfl⟩))
end
end Mine
end
section
/-! part P19 -/
open PySem PySem.W PyProof.Rows PySem.Spec PySem.SeqAt
set_option maxRecDepth 100000
namespace Mine
section
variable {prog : Program} {w : World} {A : Around} {E : Value → Shared → Prop} {mg mb : Str → Option Value} {bm : Addr} {ob : Obj} {H0 : Heap} {env : Env}
/-- all that a comprehension over the iterator J needs -/
structure CR (prog : Program) (w : World) (A : Around) (H0 : Heap) (env : Env) (scope : Scope) (cl : List (Str × Addr)) (x : Str) (elt : Expr) (s₂ : Shared) (J : Addr) (fp wr : List Addr) (n : Nat) (P : Nat → Value → Prop) (St : Nat → Heap → Prop) (T : Nat → Value → Prop) : Prop where
  walk : Walks prog w A J fp wr n P St
  small : n ≤ sizeLine
  st : St 0 s₂.heap
  lo : ∀ b ∈ fp, b < s₂.heap.objs.size
  G : GL H0 s₂
  n16 : 16 ∉ fp
  n53 : 53 ∉ fp
  wH : ∀ b ∈ wr, H0.get? b = none
  nc : ∀ i h, St i h → ∀ b ∈ wr, NotCd h b
  elt : ∀ C i v s₃ m₃ E' Q', s₂.heap.objs.size ≤ C → i < n → P i v → s₃.heap.Ns C m₃ → m₃ x = some v → GL H0 s₃ → Kw wr s₂.heap s₃.heap →
      (∀ y s₄, T i y → GL H0 s₄ → K2 s₃.heap s₄.heap → s₃.heap.objs.size ≤ s₄.heap.objs.size → s₄.os = s₃.os → Q' y s₄) → wpAny (model prog w) A (eval elt (compEnvC scope cl C env)) Q' E' s₃
theorem comp_eval {s : Shared} {elt iter : Expr} {x : Str} {px : Pos} {scope : Scope} {cl : List (Str × Addr)} {pos : Pos} {Q : Value → Shared → Prop} (W : Wd w mg mb bm ob H0) (T : Nat → Value → Prop)
    (hclos : closureFor scope env = pure cl) (hcell : ∀ y ∈ scope.names, y.2 ≠ .cell) (hkind : scope.kind = .function)
    (hnames : ∀ y ∈ scope.names, y.2 = .local → scope.names.lookup y.1 = some .local) (hx : scope.names.lookup x = some .local)
    (h : wpAny (model prog w) A (eval iter env) (fun xv s₁ => wpAny (model prog w) A (pyIter xv) (fun it s₂ => ∃ J fp wr n P St, it = .ref J ∧ CR prog w A H0 env scope cl x elt s₂ J fp wr n P St T ∧
      (∀ D s' ys, s₂.heap.objs.size ≤ D → s'.heap.IsList D ys → ys.size = n → (∀ i y, ys[i]? = some y → T i y) → GL H0 s' → Kw wr s₂.heap s'.heap → s₂.heap.objs.size ≤ s'.heap.objs.size → s'.os = s₂.os → Q (.ref D) s')) E s₁) E s)
    (hs : ∀ x, foldedSetIterable iter env x = pure x := by intro _; rfl) :
    wpAny (model prog w) A (eval (.ListComp elt [⟨.Name x px, iter, [], 0⟩] scope pos) env) Q E s := by
  rw [eval_ListComp]
  refine wpAny_comprehension_free (use := none) rfl hs hclos hkind hnames (wpAny_mono h (fun xv s₁ h₁ => wpAny_mono h₁ (fun it s₂ h₂ => ?_) fun _ _ e => e) fun _ _ e => e)
  obtain ⟨J, fp, wr, n, P, St, rfl, R, hQ⟩ := h₂
  refine comp_block (RR := fun acc C => compPost (model prog w) A E none Q acc C) W R.walk R.small T hcell hkind hx R.st R.lo R.G R.n16 R.n53 R.wH R.nc R.elt ?_
  intro D C s' m' ys hD hC hDC hn hl hsz hT G' k' z' o'
  have hC0 := R.G.none_of hC
  have hCl : C ≠ 16 := fun q => by
    obtain ⟨ps, _, hP, _⟩ := R.G.good.tab
    rw [q, hP] at hC; cases hC
  have hCl2 : C ≠ 53 := fun q => by
    obtain ⟨ps, _, hP, _⟩ := R.G.tab
    rw [q, hP] at hC; cases hC
  have mem1 : ∀ {a b : Addr}, b ∈ [a] → b = a := fun h => List.mem_singleton.mp h
  refine ⟨m', hn, fun h'' hs'' => hQ D { s' with heap := h'' } ys hD (hl.extBut hs''.extBut hDC) hsz hT ?_ (fun b o hb h1 h2 e => hs''.extBut b o (by rintro rfl; rw [hC] at e; cases e) (k' b o hb h1 h2 e)) ?_ o'⟩
  · exact GL.but W (wr := [C]) G' (fun b hb => by rw [mem1 hb]; exact hC0) (fun q => hCl (mem1 q).symm) (fun q => hCl2 (mem1 q).symm) (fun b hb => by rw [mem1 hb]; exact NotCd.ns hn) (fun b o hb e => hs''.extBut b o (fun q => hb (by simp [q])) e) G'.good.bare
  · exact Nat.le_of_lt (Nat.lt_of_le_of_lt hD (isList_lt (hl.extBut hs''.extBut hDC)))
theorem comp_assign {s : Shared} {elt iter : Expr} {x y : Str} {px py : Pos} {scope : Scope} {cl : List (Str × Addr)} {pos spos : Pos} {Q : Flow → Shared → Prop} (W : Wd w mg mb bm ob H0) (T : Nat → Value → Prop)
    (hsw : swapsWith (.ListComp elt [⟨.Name x px, iter, [], 0⟩] scope pos) (some (.Name y py)) spos.line env = pure true)
    (hclos : closureFor scope env = pure cl) (hcell : ∀ z ∈ scope.names, z.2 ≠ .cell) (hkind : scope.kind = .function)
    (hnames : ∀ z ∈ scope.names, z.2 = .local → scope.names.lookup z.1 = some .local) (hx : scope.names.lookup x = some .local)
    (hy : env.kindOf y = some .local) (hp : (env.scope.kind == .class || (env.scope.kind == .module && env.locals != env.globals)) = false) (hL16 : env.locals ≠ 16) (hL53 : env.locals ≠ 53) (hL0 : H0.get? env.locals = none)
    (h : wpAny (model prog w) A (eval iter env) (fun xv s₁ => wpAny (model prog w) A (pyIter xv) (fun it s₂ => ∃ J fp wr n P St m, it = .ref J ∧ CR prog w A H0 env scope cl x elt s₂ J fp wr n P St T ∧ env.locals ∉ wr ∧ s₂.heap.Ns env.locals m ∧
      (∀ D s' ys, s₂.heap.objs.size ≤ D → s'.heap.IsList D ys → ys.size = n → (∀ i y, ys[i]? = some y → T i y) → GL H0 s' → s'.heap.Ns env.locals (fun z => if z = y then some (.ref D) else m z) →
        (∀ b o, b ≠ env.locals → b ∉ wr → b ≠ 16 → b ≠ 53 → s₂.heap.get? b = some o → s'.heap.get? b = some o) → s'.os = s₂.os → Q .next s')) E s₁) E s)
    (hs : ∀ x, foldedSetIterable iter env x = pure x := by intro _; rfl) :
    wpAny (model prog w) A (exec (.Assign [.Name y py] (.ListComp elt [⟨.Name x px, iter, [], 0⟩] scope pos) spos) env) Q E s := by
  rw [exec_Assign_Name_used _ _ _ _ hsw]
  refine wpAny_bind (wpAny_standAt (wpAny_bind ?_))
  show wpAny _ A (do let _ ← comprehension (.ListComp elt [⟨.Name x px, iter, [], 0⟩] scope pos) scope env _ (newList []) false (eval iter env) (some (assign (.Name y py) env))) _ _ s
  refine wpAny_bind (wpAny_mono (wpAny_comprehension_free (use := some (assign (.Name y py) env)) (Q := fun _ s' => Q .next s') rfl hs hclos hkind hnames
    (wpAny_mono h (fun xv s₁ h₁ => wpAny_mono h₁ (fun it s₂ h₂ => ?_) fun _ _ e => e) fun _ _ e => e)) (fun _ s' hq => wpAny_pure (wpAny_pure hq)) fun _ _ e => e)
  obtain ⟨J, fp, wr, n, P, St, m, rfl, R, hLw, hn, hQ⟩ := h₂
  refine comp_block (RR := fun acc C => compPost (model prog w) A E (some (assign (.Name y py) env)) (fun _ s' => Q .next s') acc C) W R.walk R.small T hcell hkind hx R.st R.lo R.G R.n16 R.n53 R.wH R.nc R.elt ?_
  intro D C s' m' ys hD hC hDC hnC hl hsz hT G' k' z' o'
  have hLC : env.locals ≠ C := by rintro rfl; obtain ⟨o, _, _, ho, _⟩ := hn; rw [hC] at ho; cases ho
  have hLD : env.locals ≠ D := fun q => by obtain ⟨o, _, _, ho, _⟩ := hn; exact absurd (Heap.lt_size ho) (Nat.not_lt.mpr (q ▸ hD))
  have hC0 := R.G.none_of hC
  have hCl : C ≠ 16 := fun q => by
    obtain ⟨ps, _, hP, _⟩ := R.G.good.tab
    rw [q, hP] at hC; cases hC
  have hCl2 : C ≠ 53 := fun q => by
    obtain ⟨ps, _, hP, _⟩ := R.G.tab
    rw [q, hP] at hC; cases hC
  have mem1 : ∀ {a b : Addr}, b ∈ [a] → b = a := fun h => List.mem_singleton.mp h
  show wpAny _ A (assign (.Name y py) env (.ref D)) _ _ _
  have hnL : s'.heap.Ns env.locals m := hn.at' fun o e => k' _ o hLw hL16 hL53 e
  refine wpAny_assign_Name (wpAny_storeName_local hy hnL (fun h₂ hn₂ hs₂ => ?_) hp)
  have G2 : GL H0 { s' with heap := h₂, toks := s'.toks + 1 } := GL.but W (wr := [env.locals]) G' (fun b hb => by rw [mem1 hb]; exact hL0) (fun q => hL16 (mem1 q).symm) (fun q => hL53 (mem1 q).symm) (fun b hb => by rw [mem1 hb]; exact NotCd.ns hnL) (fun b o hb e => hs₂.extBut b o (fun q => hb (by simp [q])) e) G'.good.bare
  have hnC2 := hnC.sameBut hs₂ (Ne.symm hLC)
  refine ⟨m', hnC2, fun h'' hs'' => hQ D _ ys hD ((hl.extBut hs₂.extBut (Ne.symm hLD)).extBut hs''.extBut hDC) hsz hT ?_ (hn₂.sameBut hs'' hLC) (fun b o hbL hb h1 h2 e => hs''.extBut b o (by rintro rfl; rw [hC] at e; cases e) (hs₂.extBut b o hbL (k' b o hb h1 h2 e))) o'⟩
  exact GL.but W (wr := [C]) G2 (fun b hb => by rw [mem1 hb]; exact hC0) (fun q => hCl (mem1 q).symm) (fun q => hCl2 (mem1 q).symm) (fun b hb => by rw [mem1 hb]; exact NotCd.ns hnC2) (fun b o hb e => hs''.extBut b o (fun q => hb (by simp [q])) e) G2.good.bare
end
end Mine
end
section
/-! part P20 -/
open PySem PySem.W PyProof.Rows PySem.Spec PySem.SeqAt
set_option maxRecDepth 100000
namespace Mine
/-- the sixteen pieces -/
def pcs : List Str := [Str.ofString "unknown", Str.ofString "un", Str.ofString "known", Str.ofString "unk", Str.ofString "nown", Str.ofString "-", Str.ofString "--", Str.ofString " ", Str.ofString "\t", Str.ofString "/", Str.ofString ":", Str.ofString "(", Str.ofString ")", Str.ofString "a", Str.ofString "\\;", Str.ofString "\"b"]
abbrev PcOk (t : List Nat) : Prop := Wf false (t.map mc) ≤ 2 ∧ (∀ c ∈ t, c < 128 ∧ Unicode.isSpace c = wh c) ∧ t.length ≤ 7
theorem pcs_ok : ∀ p ∈ pcs, PcOk (tl p) := by decide +kernel
structure TextOk (t : List Nat) : Prop where
  w : Wf false (t.map mc) ≤ 10
  al : Al t
  len : t.length ≤ 35
theorem flat_ok : ∀ (l : List (List Nat)), (∀ t ∈ l, PcOk t) → Wf false (l.flatten.map mc) ≤ 2 * l.length ∧ Al l.flatten ∧ l.flatten.length ≤ 7 * l.length
  | [], _ => ⟨by simp [Wf], fun c hc => by simp at hc, by simp⟩
  | t :: r, h => by
    obtain ⟨h1, h2, h3⟩ := flat_ok r fun x hx => h x (.tail _ hx)
    obtain ⟨g1, g2, g3⟩ := h t (.head _)
    rw [List.flatten_cons, List.map_append]
    refine ⟨?_, fun c hc => ?_, ?_⟩
    · have := Wf_sub (t.map mc) (r.flatten.map mc)
      rw [List.length_cons]; omega
    · rcases List.mem_append.mp hc with hc | hc
      · exact g2 c hc
      · exact h2 c hc
    · rw [List.length_append, List.length_cons]; omega
theorem text_ok {l : List (List Nat)} (h : ∀ t ∈ l, PcOk t) (hl : l.length ≤ 5) : TextOk l.flatten := by
  obtain ⟨h1, h2, h3⟩ := flat_ok l h
  exact ⟨by omega, h2, by omega⟩
theorem join_empty_tl : ∀ l : List Str, tl (Str.join (Str.ofString "") l) = (l.map tl).flatten
  | [] => rfl
  | [x] => by simp [Str.join]
  | x :: y :: r => by
    rw [join_tl_cons, join_empty_tl (y :: r)]
    rw [show tl (Str.ofString "") = [] from by decide +kernel]
    simp
theorem strs_of : ∀ (l : List Value) (R : Nat → Str → Prop), (∀ i v, l[i]? = some v → ∃ x t, v = .str x t ∧ R i x) → ∃ xs, StrsAre l xs ∧ ∀ i x, xs[i]? = some x → R i x
  | [], _, _ => ⟨[], .nil, fun i x e => by simp at e⟩
  | v :: r, R, h => by
    obtain ⟨x, t, rfl, hx⟩ := h 0 v rfl
    obtain ⟨xs, h1, h2⟩ := strs_of r (fun i => R (i + 1)) fun i v e => h (i + 1) v (by simpa using e)
    refine ⟨x :: xs, .cons x t h1, fun i y e => ?_⟩
    cases i with
    | zero => cases e; exact hx
    | succ i => exact h2 i y (by simpa using e)
theorem pick_len (is : List Value) (h : is.length = 20) (k : Nat) (hk : k < 4) : (slicePick is.toArray (some (k : Int)) none (some 4)).size ≤ 5 := by
  have e : (slicePick is.toArray (some (k : Int)) none (some 4)).toList = (sliceRange (sliceBounds (some (k : Int)) none (some 4) 20).1 (sliceBounds (some (k : Int)) none (some 4) 20).2.1 (sliceBounds (some (k : Int)) none (some 4) 20).2.2).filterMap (is[·]?) := by
    simp [slicePick, h]
  rw [← Array.length_toList, e]
  refine Nat.le_trans (List.length_filterMap_le _ _) ?_
  have : ∀ k : Fin 4, (sliceRange (sliceBounds (some ((k.val : Nat) : Int)) none (some 4) 20).1 (sliceBounds (some ((k.val : Nat) : Int)) none (some 4) 20).2.1 (sliceBounds (some ((k.val : Nat) : Int)) none (some 4) 20).2.2).length ≤ 5 := by decide +kernel
  exact this ⟨k, hk⟩
section
variable {prog : Program} {w : World} {A : Around} {E : Value → Shared → Prop} {s : Shared} {mg mb : Str → Option Value} {bm : Addr} {ob : Obj} {H0 : Heap} {env : Env}
theorem ldg {M : Model} {x : Str} {pos : Pos} {v : Value} {Q : Value → Shared → Prop} (W : Wd w mg mb bm ob H0) (k : ∀ b o, H0.get? b = some o → s.heap.get? b = some o) (hv : mg x = some v) (h : Q v s) (hk : env.scope.kind = .function) (hx : env.kindOf x = some .globalImplicit) (hge : env.globals = mainGlobals)
    (hd : (x == ("__debug__" : Str)) = false) : wpAny M A (eval (.Name x pos) env) Q E s :=
  Calls.Name_function_global hk hx (Calls.loadGlobal_global (by rw [hge]; exact W.g.keeps k) hv h) hd
theorem ldb {M : Model} {x : Str} {pos : Pos} {v : Value} {Q : Value → Shared → Prop} (W : Wd w mg mb bm ob H0) (k : ∀ b o, H0.get? b = some o → s.heap.get? b = some o) (h1 : mg x = none) (h2 : mb x = some v) (h : Q v s) (hk : env.scope.kind = .function) (hx : env.kindOf x = some .globalImplicit) (hge : env.globals = mainGlobals) (hbi : env.builtins = builtinsNs)
    (hd : (x == ("__debug__" : Str)) = false) : wpAny M A (eval (.Name x pos) env) Q E s :=
  Calls.Name_function_global hk hx (Calls.loadGlobal_builtin (by rw [hge]; exact W.g.keeps k) h1 (by rw [hbi]; exact W.b.keeps k) h2 h) hd
theorem ldl {M : Model} {x : Str} {pos : Pos} {v : Value} {m : Str → Option Value} {Q : Value → Shared → Prop} (hn : s.heap.Ns env.locals m) (hv : m x = some v) (h : Q v s) (hk : env.scope.kind = .function) (hl : env.kindOf x = some .local) (hd : (x == ("__debug__" : Str)) = false) :
    wpAny M A (eval (.Name x pos) env) Q E s := wpAny_Name (wpAny_loadName_local hk hl hn hv h) hd
theorem ldc {M : Model} {x : Str} {pos : Pos} {v : Value} {c : Addr} {Q : Value → Shared → Prop} (hc : env.cells.lookup x = some c) (hv : s.heap.IsCell c (some v)) (h : Q v s) (hk : env.scope.kind = .function) (hl : env.kindOf x = some .cell) (hd : (x == ("__debug__" : Str)) = false) :
    wpAny M A (eval (.Name x pos) env) Q E s := wpAny_Name (wpAny_loadName_cell hk hl hc hv h) hd
theorem cell_ne_16 {h : Heap} {c : Addr} {v : Option Value} (x : h.IsCell c v) (T : Tab h 20 16) : c ≠ 16 := fun q => by
  obtain ⟨o, e, hd⟩ := x
  obtain ⟨ps, _, hP, _⟩ := T
  rw [q, hP] at e; cases e; cases hd
theorem cell_ne_53 {h : Heap} {c : Addr} {v : Option Value} (x : h.IsCell c v) (T : Tb h) : c ≠ 53 := fun q => by
  obtain ⟨o, e, hd⟩ := x
  obtain ⟨ps, _, hP, _⟩ := T
  rw [q, hP] at e; cases e; cases hd
theorem list_ne_53 {h : Heap} {c : Addr} {v : Array Value} (x : h.IsList c v) (T : Tb h) : c ≠ 53 := fun q => by
  obtain ⟨o, e, hc, n, hd⟩ := x
  obtain ⟨ps, _, hP, _⟩ := T
  rw [q, hP] at e; cases e; cases hd
theorem cell_ne_ns {h : Heap} {c L : Addr} {v : Option Value} {m : Str → Option Value} (x : h.IsCell c v) (F : h.Ns L m) : c ≠ L := fun q => by
  obtain ⟨o, e, hd⟩ := x
  obtain ⟨o2, es, ep, e2, hd2, _⟩ := F
  rw [q, e2] at e; cases e; rw [hd2] at hd; cases hd
theorem ns_ne_16 {h : Heap} {L : Addr} {m : Str → Option Value} (F : h.Ns L m) (T : Tab h 20 16) : L ≠ 16 := fun q => by
  obtain ⟨o2, es, ep, e2, hd2, _⟩ := F
  obtain ⟨ps, _, hP, _⟩ := T
  rw [q, hP] at e2; cases e2; cases hd2
theorem ns_ne_53 {h : Heap} {L : Addr} {m : Str → Option Value} (F : h.Ns L m) (T : Tb h) : L ≠ 53 := fun q => by
  obtain ⟨o2, es, ep, e2, hd2, _⟩ := F
  obtain ⟨ps, _, hP, _⟩ := T
  rw [q, hP] at e2; cases e2; cases hd2
theorem GL.tok {s : Shared} (G : GL H0 s) (tk : Nat) : GL H0 { s with toks := tk } := ⟨⟨G.good.keep, G.good.tab, G.good.bare⟩, G.tab⟩
theorem GL.grow (W : Wd w mg mb bm ob H0) {s s' : Shared} (G : GL H0 s) (k : ∀ b o, s.heap.get? b = some o → s'.heap.get? b = some o) (hg : s'.gens = s.gens) : GL H0 s' :=
  GL.but W (wr := []) G (fun _ h => nomatch h) (fun h => nomatch h) (fun h => nomatch h) (fun _ h => nomatch h) (fun b o _ e => k b o e) (hg ▸ G.good.bare)
/-- range(n), n a constant, as an iterator -/
theorem range_iter {n : Nat} {tn : Tok} {Q : Value → Shared → Prop} (hn : n ≤ 1000)
    (h : ∀ r J h' tk, (∀ b o, s.heap.get? b = some o → h'.get? b = some o) → s.heap.objs.size ≤ J → J < h'.objs.size → IsRangeIter h' J (0 + ((0 : Nat) : Int) * 1) ((n : Int) - ((0 : Nat) : Int)) 1 → r = Value.ref J → Q r { s with heap := h', toks := tk }) :
    wpAny (model prog w) A (call (.type "range") [.int n tn]) (fun v s₁ => wpAny (model prog w) A (pyIter v) Q E s₁) E s := by
  refine call_range_1 ?_
  have hrs : Builtin.Range.rangeSize 0 (n : Int) 1 = (n : Int) := by rw [rangeSize_one]; split <;> omega
  refine wpAny_pyIter_range (IsRange.new ..) (small_one (by decide) (by decide) (by omega) (by omega)) ?_
  rw [hrs]
  refine h _ _ _ _ (fun b o e => Heap.get?_push_of_some _ (Heap.get?_push_of_some _ e)) ?_ ?_ ?_ rfl
  · simp only [Heap.size_push]; exact Nat.le_succ _
  · simp only [Heap.size_push]; exact Nat.lt_succ_self _
  · have := Heap.get?_push_size (s.heap.push { cls := .type "range", data := .fields #[.int 0 s.toks, .int n tn, .int 1 (s.toks + 1)] }) (o := { cls := .type "range_iterator", data := .fields #[rawInt 0, rawInt n, rawInt 1] }) rfl
    simpa using this
end
end Mine
end
section
/-! part P21 -/
open PySem PySem.W PyProof.Rows PySem.Spec PySem.SeqAt
set_option maxRecDepth 100000
namespace Mine
theorem kfill21 : (PySem.Challenge.rw_mr0080_01 = PySem.Challenge.rw_mr0080_01) ∧ (hd.heap_39 = hd.heap_39) := by
  k_fill; exact ⟨rfl, rfl⟩
abbrev nK : Str := Str.ofString "k"
abbrev nNum : Str := Str.ofString "numbers"
abbrev nPcs : Str := Str.ofString "pieces"
abbrev nTexts : Str := Str.ofString "texts"
abbrev nText : Str := Str.ofString "text"
abbrev nNames : Str := Str.ofString "names"
abbrev nRange : Str := Str.ofString "range"
abbrev inScope : Scope := ⟨.function, [(Str.ofString ".0", .local), (nX, .local), (nPcs, .free)], false, false, []⟩
abbrev outScope : Scope := ⟨.function, [(Str.ofString ".0", .local), (nK, .local), (nNum, .free), (nPcs, .free)], false, false, []⟩
section
variable {prog : Program} {w : World} {A : Around} {E : Value → Shared → Prop} {s : Shared} {mg mb : Str → Option Value} {bm : Addr} {ob : Obj} {H0 : Heap} {env : Env}
theorem Wd.rng1 (W : Wd w mg mb bm ob H0) : mg nRange = none := mg_none_of W.X W.g (by k_is)
theorem Wd.rng2 (W : Wd w mg mb bm ob H0) : mb nRange = some (.type "range") := (W.bi _ (by decide)).trans (by decide +kernel)
/-- ''.join([pieces[x % 16] for x in numbers[k::4]]) -/
theorem inner_text (W : Wd w mg mb bm ob H0) {m : Str → Option Value} {k : Nat} {tk : Tok} {cN cP N PP : Addr} {is ps : List Value} {ns : List Int} {cl2 : List (Str × Addr)} {k0 k1 k2 : Nat} {r1 r2 r3 r4 r5 r6 r7 r8 r9 r10 r11 r12 r13 r14 r15 : Pos} {Q : Value → Shared → Prop}
    (G : GL H0 s) (hn : s.heap.Ns env.locals m) (hmk : m nK = some (.int k tk)) (hk4 : k < 4) (hN : s.heap.IsCell cN (some (.ref N))) (hP : s.heap.IsCell cP (some (.ref PP))) (hNl : s.heap.IsList N is.toArray) (his : IntsAre is ns) (hns : ns.length = 20)
    (hPl : s.heap.IsList PP ps.toArray) (hps : StrsAre ps pcs) (hh : A.handled = none)
    (e1 : env.scope.kind = .function) (e2 : env.kindOf nK = some .local) (e3 : env.kindOf nNum = some .cell) (e4 : env.cells.lookup nNum = some cN) (e5 : closureFor inScope env = pure cl2) (e6 : ∀ C, (compEnvC inScope cl2 C env).kindOf nPcs = some .cell) (e7 : cl2.lookup nPcs = some cP)
    (hpos : (r2.endLine == r15.line) = true)
    (hQ : ∀ z t s', TextOk (tl z) → GL H0 s' → K2 s.heap s'.heap → s.heap.objs.size ≤ s'.heap.objs.size → s'.os = s.os → Q (.str z t) s') :
    wpAny (model prog w) A (eval (.Call (.Attribute (.Constant (.str (Str.ofString "")) k0 r1) (Str.ofString "join") r2)
      [.ListComp (.Subscript (.Name nPcs r3) (.BinOp (.Name nX r4) .Mod (.Constant (.int 16) k1 r5) r6) r7)
        [⟨.Name nX r8, .Subscript (.Name nNum r9) (.Slice (some (.Name nK r10)) none (some (.Constant (.int 4) k2 r11)) r12) r13, [], 0⟩] inScope r14] [] r15) env) Q E s := by
  refine method_line (fun _ _ => rfl) hpos rfl ?_
  refine Calls.Constant_str ?_
  refine GM.join ?_
  refine callWith_method1 ?_
  refine spliced_more ?_
  have hisl : is.length = 20 := by rw [his.length]; exact hns
  refine comp_eval W (fun _ v => ∃ x t, v = .str x t ∧ x ∈ pcs) e5 (by decide) rfl (by decide) rfl ?_
  refine Subscript_ (ldc e4 (s := { s with toks := s.toks + 1 }) hN ?_ e1 e3 (by decide))
  refine wpAny_Slice ?_
  refine evalPart_some_step (ldl (s := { s with toks := s.toks + 1 }) hn hmk (evalPart_none_step (evalPart_some_step ?_)) e1 e2 (by decide))
  refine wpAny_Constant_int ?_
  refine slice_h (s := { s with toks := s.toks + 1 + 1 }) hNl (.int _ _) .none (.int _ _) (by simp) (by rw [sizeLine_eq]; simp; omega) (fun h2 k2 z2 l2 => ?_)
  dsimp only at k2 z2 l2 ⊢
  have hsz := pick_len is hisl k hk4
  generalize hitems : slicePick is.toArray (some (k : Int)) none (some 4) = items at l2 hsz
  have hit : IntsAre items.toList (pickNums ns (some (k : Int)) none (some 4)) := hitems ▸ his.pick _ _ _
  have G2 : ∀ tk, GL H0 ⟨h2, s.gens, s.drawn, tk, s.os⟩ := fun tk => GL.grow W G k2 rfl
  refine wpAny_pyIter_list (s := ⟨h2, _, _, _, _⟩) l2 ?_
  have k3 : ∀ b o, h2.get? b = some o → (h2.push { cls := .type "list_iterator", data := .fields #[.ref (s.heap.objs.size + 1), .int 0 0] }).get? b = some o := fun b o e => Heap.get?_push_of_some _ e
  have st3 : (h2.push { cls := .type "list_iterator", data := .fields #[.ref (s.heap.objs.size + 1), .int 0 0] }).IsListIter h2.objs.size (s.heap.objs.size + 1) 0 := ⟨_, Heap.get?_push_size h2 (o := { cls := .type "list_iterator", data := .fields #[.ref (s.heap.objs.size + 1), .int 0 0] }) rfl, rfl, rfl⟩
  have hz3 : (h2.push { cls := .type "list_iterator", data := .fields #[.ref (s.heap.objs.size + 1), .int 0 0] }).objs.size = h2.objs.size + 1 := Heap.size_push ..
  dsimp only
  generalize h2.push { cls := .type "list_iterator", data := .fields #[.ref (s.heap.objs.size + 1), .int 0 0] } = h3 at *
  have hSlt := ltA (a := s.heap.objs.size + 1) (b := h2.objs.size) (isList_lt l2)
  have h53 := (G2 0).lt53
  have h53' : @LT.lt Nat instLTNat 53 h2.objs.size := h53
  have h53s := G.lt53
  have hJ0 : H0.get? h2.objs.size = none := (G2 0).none_of (Heap.get?_none_of_le (Nat.le_refl _))
  have k23 : ∀ b o, s.heap.get? b = some o → h3.get? b = some o := fun b o e => k3 b o (k2 b o e)
  refine ⟨h2.objs.size, _, _, _, _, _, rfl, ⟨Walks.list (by exact hh) h2.objs.size (s.heap.objs.size + 1) (neA (by omega)) items, by rw [sizeLine_eq]; omega, ⟨st3, l2.at fun o e => k3 _ _ e⟩, fun b hb => ?_, GL.grow W (G2 (s.toks + 1 + 1)) k3 rfl, fun q => ?_, fun q => ?_, fun b hb => by rw [List.mem_singleton.mp hb]; exact hJ0, fun i h st b hb => by rw [List.mem_singleton.mp hb]; exact NotCd.listIter st.1, ?_⟩, ?_⟩
  · show b < h3.objs.size
    rw [hz3]
    rcases List.mem_cons.mp hb with rfl | hb
    · exact Nat.lt_succ_self _
    · rw [List.mem_singleton.mp hb]; exact Nat.lt_succ_of_lt hSlt
  · rcases List.mem_cons.mp q with q | q
    · exact absurd q (neA (by omega))
    · exact absurd (List.mem_singleton.mp q) (neA (by omega))
  · rcases List.mem_cons.mp q with q | q
    · exact absurd q (neA (by omega))
    · exact absurd (List.mem_singleton.mp q) (neA (by omega))
  · intro C i v s₃ m₃ E' Q' hC hi hv hn3 hm3 G3 kw hq
    obtain ⟨x, tx, rfl, -⟩ : ∃ x t, v = Value.int x t ∧ True := by
      have hl := hit.length
      have hv' : items.toList[i]? = some v := by simpa using hv
      have hi' : i < (pickNums ns (some (k : Int)) none (some 4)).length := by rw [← hl]; simpa using hi
      obtain ⟨t, ht⟩ := hit.get i _ (List.getElem?_eq_getElem hi')
      rw [ht] at hv'; exact ⟨_, t, (Option.some.inj hv').symm, trivial⟩
    have hP16 := cell_ne_16 hP G.good.tab
    have hP53 := cell_ne_53 hP G.tab
    have hPl16 := list_ne_16 hPl G.good.tab
    have hPl53 := list_ne_53 hPl G.tab
    have hPlt : cP < s.heap.objs.size := by obtain ⟨o, e, _⟩ := hP; exact Heap.lt_size e
    have hPlt' := ltA (a := cP) (b := s.heap.objs.size) hPlt
    have hPPlt := ltA (a := PP) (b := s.heap.objs.size) (isList_lt hPl)
    have hJge : @LE.le Nat instLENat s.heap.objs.size h2.objs.size := z2
    have c3 : s₃.heap.IsCell cP (some (.ref PP)) := by
      obtain ⟨o, e, hd⟩ := hP
      exact ⟨o, kw cP o (fun q => absurd (List.mem_singleton.mp q) (neA (by omega))) hP16 hP53 (k23 _ _ e), hd⟩
    have p3 : s₃.heap.IsList PP ps.toArray := hPl.at fun o e => kw PP o (fun q => absurd (List.mem_singleton.mp q) (neA (by omega))) hPl16 hPl53 (k23 _ _ e)
    refine Subscript_ (ldc (env := compEnvC inScope cl2 C env) e7 c3 ?_ rfl (e6 C) (by decide))
    refine wpAny_BinOp (ldl (env := compEnvC inScope cl2 C env) hn3 hm3 ?_ rfl (lookup_relabel_local rfl) (by decide))
    refine wpAny_Constant_int ?_
    refine PyProof.Rows.mod_int (by decide) ?_
    have hp0 : 0 ≤ x.fmod 16 := Int.fmod_nonneg_of_pos x (by decide)
    have hp1 : x.fmod 16 < 16 := Int.fmod_lt_of_pos x (by decide)
    have hlt : (x.fmod 16).toNat < pcs.length := by show (x.fmod 16).toNat < 16; omega
    obtain ⟨tp, hp⟩ := hps.get _ _ (List.getElem?_eq_getElem hlt)
    refine item_listL (s := { s₃ with toks := s₃.toks + 1 + 1 }) p3 hp0 (by omega) hp ?_
    exact hq _ _ ⟨_, _, rfl, List.getElem_mem hlt⟩ (G3.tok _) (fun _ _ _ _ e => e) (Nat.le_refl _) rfl
  · intro D s' ys hD hl' hys hT G' kw hz' ho'
    have hJge : @LE.le Nat instLENat s.heap.objs.size h2.objs.size := z2
    obtain ⟨xs, hxs, hxp⟩ := strs_of ys.toList (fun _ x => x ∈ pcs) fun i v e => hT i v (by simpa using e)
    have hxl : xs.length ≤ 5 := by
      have := hxs.length
      rw [← this]; simp only [Array.length_toList]; omega
    have hmem : ∀ x ∈ xs, x ∈ pcs := fun x hx => by
      obtain ⟨i, hi, rfl⟩ := List.getElem_of_mem hx
      exact hxp i _ (List.getElem?_eq_getElem hi)
    refine spliced_none ?_
    have hsum : ∀ l : List Str, (∀ x ∈ l, x ∈ pcs) → (l.map (·.length)).sum ≤ 7 * l.length := by
      intro l
      induction l with
      | nil => intro _; simp
      | cons a r ih =>
        intro h
        have h1 := ih fun x hx => h x (.tail _ hx)
        have h2 := (pcs_ok a (h a (.head _))).2.2
        rw [tl_length] at h2
        simp only [List.map_cons, List.sum_cons, List.length_cons]; omega
    have hs := hsum xs hmem
    refine join_list (s := s') hl' hxs (by rw [show (Str.ofString "").length = 0 from by decide +kernel]; omega) fun t' tk' => ?_
    have e : tl (Txt.join (Str.ofString "") xs) = (xs.map tl).flatten := by
      unfold Txt.join
      rw [StrLaws.glued_eq_join, join_empty_tl]
    refine hQ _ _ _ (e ▸ text_ok (fun t ht => ?_) (by rw [List.length_map]; exact hxl)) (G'.tok _) (fun b o h1 h2 e => ?_) ?_ (ho'.trans rfl)
    · obtain ⟨x, hx, rfl⟩ := List.mem_map.mp ht
      exact pcs_ok x (hmem x hx)
    · have hlt := ltA (a := b) (b := s.heap.objs.size) (Heap.lt_size e)
      exact kw b o (fun q => absurd (List.mem_singleton.mp q) (neA (by omega))) h1 h2 (k23 b o e)
    · have hz4 : @LE.le Nat instLENat h3.objs.size s'.heap.objs.size := hz'
      have hz3' : @Eq Nat h3.objs.size (h2.objs.size + 1) := hz3
      exact (by omega : @LE.le Nat instLENat s.heap.objs.size s'.heap.objs.size)
end
end Mine
end
section
/-! part P22 -/
open PySem PySem.W PyProof.Rows PySem.Spec PySem.SeqAt
set_option maxRecDepth 100000
namespace Mine
theorem kfill22 : (PySem.Challenge.rw_mr0080_01 = PySem.Challenge.rw_mr0080_01) ∧ (hd.heap_39 = hd.heap_39) := by
  k_fill; exact ⟨rfl, rfl⟩
section
variable {prog : Program} {w : World} {A : Around} {E : Value → Shared → Prop} {s : Shared} {mg mb : Str → Option Value} {bm : Addr} {ob : Obj} {H0 : Heap} {env : Env}
theorem texts_stmt (W : Wd w mg mb bm ob H0) {m : Str → Option Value} {cN cP N PP : Addr} {is ps : List Value} {ns : List Int} {cl1 cl2 : List (Str × Addr)} {k0 k1 k2 k3 : Nat} {r1 r2 r3 r4 r5 r6 r7 r8 r9 r10 r11 r12 r13 r14 r15 px q1 q2 q3 pos py spos : Pos} {Q : Flow → Shared → Prop}
    (G : GL H0 s) (hn : s.heap.Ns env.locals m) (hL0 : H0.get? env.locals = none) (hN : s.heap.IsCell cN (some (.ref N))) (hP : s.heap.IsCell cP (some (.ref PP))) (hNl : s.heap.IsList N is.toArray) (his : IntsAre is ns) (hns : ns.length = 20)
    (hPl : s.heap.IsList PP ps.toArray) (hps : StrsAre ps pcs) (hh : A.handled = none)
    (e1 : env.scope.kind = .function) (c1 : closureFor outScope env = pure cl1) (c2 : ∀ C, (compEnvC outScope cl1 C env).kindOf nNum = some .cell) (c3 : cl1.lookup nNum = some cN) (c4 : ∀ C, closureFor inScope (compEnvC outScope cl1 C env) = pure cl2)
    (c5 : ∀ C C', (compEnvC inScope cl2 C' (compEnvC outScope cl1 C env)).kindOf nPcs = some .cell) (c6 : cl2.lookup nPcs = some cP) (g1 : env.globals = mainGlobals) (g2 : env.builtins = builtinsNs) (g3 : env.kindOf nRange = some .globalImplicit) (g4 : env.kindOf nTexts = some .local)
    (hpos : (r2.endLine == r15.line) = true)
    (hsw : swapsWith (.ListComp (.Call (.Attribute (.Constant (.str (Str.ofString "")) k0 r1) (Str.ofString "join") r2)
      [.ListComp (.Subscript (.Name nPcs r3) (.BinOp (.Name nX r4) .Mod (.Constant (.int 16) k1 r5) r6) r7)
        [⟨.Name nX r8, .Subscript (.Name nNum r9) (.Slice (some (.Name nK r10)) none (some (.Constant (.int 4) k2 r11)) r12) r13, [], 0⟩] inScope r14] [] r15) [⟨.Name nK px, .Call (.Name nRange q1) [.Constant (.int 4) k3 q2] [] q3, [], 0⟩] outScope pos) (some (.Name nTexts py)) spos.line env = pure true)
    (hQ : ∀ D s' vs xs, s'.heap.IsList D vs.toArray → StrsAre vs xs → xs.length = 4 → (∀ x ∈ xs, TextOk (tl x)) → GL H0 s' → s'.heap.Ns env.locals (fun z => if z = nTexts then some (.ref D) else m z) →
      (∀ b o, b ≠ env.locals → b ≠ 16 → b ≠ 53 → s.heap.get? b = some o → s'.heap.get? b = some o) → s'.os = s.os → Q .next s') :
    wpAny (model prog w) A (exec (.Assign [.Name nTexts py] (.ListComp (.Call (.Attribute (.Constant (.str (Str.ofString "")) k0 r1) (Str.ofString "join") r2)
      [.ListComp (.Subscript (.Name nPcs r3) (.BinOp (.Name nX r4) .Mod (.Constant (.int 16) k1 r5) r6) r7)
        [⟨.Name nX r8, .Subscript (.Name nNum r9) (.Slice (some (.Name nK r10)) none (some (.Constant (.int 4) k2 r11)) r12) r13, [], 0⟩] inScope r14] [] r15) [⟨.Name nK px, .Call (.Name nRange q1) [.Constant (.int 4) k3 q2] [] q3, [], 0⟩] outScope pos) spos) env) Q E s := by
  have hL16 := ns_ne_16 hn G.good.tab
  have hL53 := ns_ne_53 hn G.tab
  refine comp_assign W (fun _ v => ∃ z t, v = .str z t ∧ TextOk (tl z)) hsw c1 (by decide) rfl (by decide) rfl g4 (by rw [e1]; rfl) hL16 hL53 hL0 ?_
  refine Call_ (ldb W G.good.keep W.rng1 W.rng2 ?_ e1 g3 g1 g2 (by decide))
  refine PyProof.Rows.callWith_type1 (spliced_more (wpAny_Constant_int (spliced_none ?_)))
  refine range_iter (s := { s with toks := s.toks + 1 }) (n := 4) (by decide) fun r J h2 tk k2 hJ1 hJ2 st2 hr => ?_
  subst hr
  dsimp only at k2 hJ1 hJ2 st2 ⊢
  have G2 : GL H0 { s with heap := h2, toks := tk } := GL.grow W G k2 rfl
  have hJ0 : H0.get? J = none := by
    cases e : H0.get? J with
    | none => rfl
    | some o => exact absurd (Heap.lt_size (G.good.keep _ _ e)) (Nat.not_lt.mpr hJ1)
  have h53s := G.lt53
  have hJ1' : @LE.le Nat instLENat s.heap.objs.size J := hJ1
  have old : ∀ {b : Addr}, b < s.heap.objs.size → b ∉ [J] := fun {b} hb q => by
    have := ltA (a := b) (b := s.heap.objs.size) hb
    exact absurd (List.mem_singleton.mp q) (neA (by omega))
  have hLlt : env.locals < s.heap.objs.size := hn.lt
  refine ⟨J, _, _, _, _, _, m, rfl, ⟨Walks.range (by exact hh) J 0 1 4, by rw [sizeLine_eq]; omega, st2, fun b hb => by rw [List.mem_singleton.mp hb]; exact hJ2, G2, fun q => absurd (List.mem_singleton.mp q) (neA (by omega)), fun q => absurd (List.mem_singleton.mp q) (neA (by omega)), fun b hb => by rw [List.mem_singleton.mp hb]; exact hJ0, fun i h st b hb => by rw [List.mem_singleton.mp hb]; exact NotCd.rangeIter st, ?_⟩, old hLlt, hn.keeps k2, ?_⟩
  · intro C i v s₃ m₃ E' Q' hC hi hv hn3 hm3 G3 kw hq
    obtain ⟨tv, rfl⟩ := hv
    have e0 : (0 + (i : Int) * 1) = (i : Int) := by omega
    rw [e0] at hm3
    have keep3 : ∀ b o, b ≠ 16 → b ≠ 53 → s.heap.get? b = some o → s₃.heap.get? b = some o := fun b o h1 h2 e => kw b o (old (Heap.lt_size e)) h1 h2 (k2 b o e)
    have cN3 : s₃.heap.IsCell cN (some (.ref N)) := by
      obtain ⟨o, e, hd⟩ := id hN
      exact ⟨o, keep3 _ _ (cell_ne_16 hN G.good.tab) (cell_ne_53 hN G.tab) e, hd⟩
    have cP3 : s₃.heap.IsCell cP (some (.ref PP)) := by
      obtain ⟨o, e, hd⟩ := id hP
      exact ⟨o, keep3 _ _ (cell_ne_16 hP G.good.tab) (cell_ne_53 hP G.tab) e, hd⟩
    exact inner_text (env := compEnvC outScope cl1 C env) W G3 hn3 hm3 hi cN3 cP3 (hNl.at fun o e => keep3 _ _ (list_ne_16 hNl G.good.tab) (list_ne_53 hNl G.tab) e) his hns (hPl.at fun o e => keep3 _ _ (list_ne_16 hPl G.good.tab) (list_ne_53 hPl G.tab) e) hps hh rfl (lookup_relabel_local rfl) (c2 C) c3 (c4 C) (c5 C) c6 hpos
      fun z t s' hz G' k' z' o' => hq _ _ ⟨z, t, rfl, hz⟩ G' k' z' o'
  · intro D s' ys hD hl' hys hT G' hn' kw ho'
    obtain ⟨xs, hxs, hxp⟩ := strs_of ys.toList (fun _ x => TextOk (tl x)) fun i v e => hT i v (by simpa using e)
    refine hQ D s' ys.toList xs (by simpa using hl') hxs (by rw [← hxs.length]; simpa using hys) (fun x hx => ?_) G' hn' (fun b o hb h1 h2 e => kw b o hb (old (Heap.lt_size e)) h1 h2 (k2 b o e)) ho'
    obtain ⟨i, hi, rfl⟩ := List.getElem_of_mem hx
    exact hxp i _ (List.getElem?_eq_getElem hi)
/-- a list is gone through -/
theorem iter_list_cr {scope : Scope} {cl : List (Str × Addr)} {x : Str} {elt : Expr} {l : Addr} {items : Array Value} {T : Nat → Value → Prop} {Q : Value → Shared → Prop} (W : Wd w mg mb bm ob H0) (G : GL H0 s) (hl : s.heap.IsList l items) (hsz : items.size ≤ sizeLine) (hh : A.handled = none)
    (helt : ∀ C i v s₃ m₃ E' Q', s.heap.objs.size ≤ C → items[i]? = some v → s₃.heap.Ns C m₃ → m₃ x = some v → GL H0 s₃ → K2 s.heap s₃.heap →
      (∀ y s₄, T i y → GL H0 s₄ → K2 s₃.heap s₄.heap → s₃.heap.objs.size ≤ s₄.heap.objs.size → s₄.os = s₃.os → Q' y s₄) → wpAny (model prog w) A (eval elt (compEnvC scope cl C env)) Q' E' s₃)
    (h : ∀ J s₂, s.heap.objs.size ≤ J → (∀ b o, s.heap.get? b = some o → s₂.heap.get? b = some o) → s.heap.objs.size ≤ s₂.heap.objs.size → s₂.os = s.os →
      CR prog w A H0 env scope cl x elt s₂ J [J, l] [J] items.size (fun i v => items[i]? = some v) (fun i h => h.IsListIter J l i ∧ h.IsList l items) T → Q (.ref J) s₂) : wpAny (model prog w) A (pyIter (.ref l)) Q E s := by
  refine wpAny_pyIter_list hl ?_
  have k2 : ∀ b o, s.heap.get? b = some o → (s.heap.push { cls := .type "list_iterator", data := .fields #[.ref l, .int 0 0] }).get? b = some o := fun b o e => Heap.get?_push_of_some _ e
  have st2 : (s.heap.push { cls := .type "list_iterator", data := .fields #[.ref l, .int 0 0] }).IsListIter s.heap.objs.size l 0 := ⟨_, Heap.get?_push_size s.heap (o := { cls := .type "list_iterator", data := .fields #[.ref l, .int 0 0] }) rfl, rfl, rfl⟩
  have hz2 : (s.heap.push { cls := .type "list_iterator", data := .fields #[.ref l, .int 0 0] }).objs.size = s.heap.objs.size + 1 := Heap.size_push ..
  have h53s := G.lt53
  have hllt := ltA (a := l) (b := s.heap.objs.size) (isList_lt hl)
  have hl16 := list_ne_16 hl G.good.tab
  have hl53 := list_ne_53 hl G.tab
  have hJ0 : H0.get? s.heap.objs.size = none := G.none_of (Heap.get?_none_of_le (Nat.le_refl _))
  generalize s.heap.push { cls := .type "list_iterator", data := .fields #[.ref l, .int 0 0] } = h2 at *
  refine h s.heap.objs.size { s with heap := h2 } (Nat.le_refl _) k2 (by show _ ≤ h2.objs.size; rw [hz2]; exact Nat.le_succ _) rfl ⟨Walks.list (by exact hh) s.heap.objs.size l (neA (by omega)) items, hsz, ⟨st2, hl.at fun o e => k2 _ _ e⟩, fun b hb => ?_, GL.grow W G k2 rfl, fun q => ?_, fun q => ?_,
    fun b hb => by rw [List.mem_singleton.mp hb]; exact hJ0, fun i h st b hb => by rw [List.mem_singleton.mp hb]; exact NotCd.listIter st.1, fun C i v s₃ m₃ E' Q' hC hi hv hn3 hm3 G3 kw hq => helt C i v s₃ m₃ E' Q' (Nat.le_trans (by show _ ≤ h2.objs.size; rw [hz2]; exact Nat.le_succ _) hC) hv hn3 hm3 G3 (fun b o h1 h2 e => ?_) hq⟩
  · show b < h2.objs.size
    rw [hz2]
    rcases List.mem_cons.mp hb with rfl | hb
    · exact Nat.lt_succ_self _
    · rw [List.mem_singleton.mp hb]; exact Nat.lt_succ_of_lt hllt
  · rcases List.mem_cons.mp q with q | q
    · exact absurd q (neA (by omega))
    · exact hl16 (List.mem_singleton.mp q).symm
  · rcases List.mem_cons.mp q with q | q
    · exact absurd q (neA (by omega))
    · exact hl53 (List.mem_singleton.mp q).symm
  · have := ltA (a := b) (b := s.heap.objs.size) (Heap.lt_size e)
    exact kw b o (fun q => absurd (List.mem_singleton.mp q) (neA (by omega))) h1 h2 (k2 b o e)
end
end Mine
end
section
/-! part P23 -/
open PySem PySem.W PyProof.Rows PySem.Spec PySem.SeqAt
set_option maxRecDepth 100000
namespace Mine
theorem kfill23 : (PySem.Challenge.rw_mr0080_01 = PySem.Challenge.rw_mr0080_01) ∧ (hd.heap_39 = hd.heap_39) := by
  k_fill; exact ⟨rfl, rfl⟩
theorem iter_len : ∀ (n : Nat) (t : List Nat), (iter n t).length ≤ t.length
  | 0, _ => Nat.le_refl _
  | n + 1, t => Nat.le_trans (iter_len n (plat1 t)) (plat1_len t)
/-- a name made of the text t -/
structure NameOf (t n : List Nat) : Prop where
  cl : n = cleanL t
  nm : Nm n
  al : Al n
  len : n.length ≤ 35
abbrev nRed : Str := Str.ofString "reduce"
abbrev nClean : Str := Str.ofString "_law_clean"
abbrev nmScope : Scope := ⟨.function, [(Str.ofString ".0", .local), (nText, .local), (nRed, .globalImplicit), (nRange, .globalImplicit)], false, false, []⟩
abbrev clScope : Scope := ⟨.function, [(Str.ofString ".0", .local), (nText, .local), (nClean, .globalImplicit)], false, false, []⟩
theorem IsLam.k2 {h h' : Heap} {f : Addr} {p : Arguments} {b : Expr} {sc : Scope} (x : IsLam h f p b sc) (h16 : f ≠ 16) (h53 : f ≠ 53) (k : K2 h h') : IsLam h' f p b sc := by
  obtain ⟨pm, cv, ctv, ho, hc⟩ := x
  exact ⟨pm, cv, ctv, k _ _ h16 h53 ho, hc.k2 k⟩
section
variable {prog : Program} {w : World} {A : Around} {E : Value → Shared → Prop} {s : Shared} {mg mb : Str → Option Value} {bm : Addr} {ob : Obj} {H0 : Heap} {env : Env}
theorem Wd.red (W : Wd w mg mb bm ob H0) : mg nRed = some (.ref 30) := mg_of W.X W.g (by k_is)
theorem Fn30 (W : Wd w mg mb bm ob H0) {h : Heap} (k : ∀ b o, H0.get? b = some o → h.get? b = some o) : FnAt 30 h := ⟨_, _, _, _, k _ _ (W.X 30 _ (by k_is))⟩
theorem Wd.clean (W : Wd w mg mb bm ob H0) : mg nClean = some (.ref 37) := mg_of W.X W.g (by k_is)
theorem Fn37 (W : Wd w mg mb bm ob H0) {h : Heap} (k : ∀ b o, H0.get? b = some o → h.get? b = some o) : FnAt 37 h := ⟨_, _, _, _, k _ _ (W.X 37 _ (by k_is))⟩
/-- reduce(lambda told, again: _platform(told), range(5), text) -/
theorem red_elt (W : Wd w mg mb bm ob H0) {m : Str → Option Value} {x : Str} {t : Tok} {k0 : Nat} {p1 p2 r1 r2 r3 r4 r5 r6 r7 r8 r9 r10 : Pos} {Q : Value → Shared → Prop} (G : GL H0 s) (hn : s.heap.Ns env.locals m) (hm : m nText = some (.str x t)) (hx : TextOk (tl x)) (hh : A.handled = none) (hroom : A.depth + 4 < recursionLimit)
    (e1 : env.scope.kind = .function) (e2 : env.kindOf nText = some .local) (e3 : env.kindOf nRed = some .globalImplicit) (e4 : env.kindOf nRange = some .globalImplicit) (e5 : env.globals = mainGlobals) (e6 : env.builtins = builtinsNs) (e7 : env.code = .ref 55) (e8 : env.qual ++ ("<lambda>" : Str) = Lam)
    (hQ : ∀ z t s', NameOf (tl x) (tl z) → GL H0 s' → K2 s.heap s'.heap → s.heap.objs.size ≤ s'.heap.objs.size → s'.os = s.os → Q (.str z t) s') :
    wpAny (model prog w) A (eval (.Call (.Name nRed r1) [.Lambda (lamParams nTold nAgain p1 p2) (.Call (.Name nPlat r2) [.Name nTold r3] [] r4) (lamScope nTold nAgain) r5, .Call (.Name nRange r6) [.Constant (.int 5) k0 r7] [] r8, .Name nText r9] [] r10) env) Q E s := by
  refine Call_ (ldg W G.good.keep W.red ?_ e1 e3 e5 (by decide))
  refine callWith_F (Fn30 W G.good.keep) ?_
  refine spliced_more (lam_new W G rfl e5 e7 e8 rfl fun f s2 G2 k2 hf1 hf2 o2 hlam => ?_)
  have hn16 := ns_ne_16 hn G.good.tab
  have hn53 := ns_ne_53 hn G.tab
  have h53s := G.lt53
  have hf1' : @LE.le Nat instLENat s.heap.objs.size f := hf1
  have hf2' : @LT.lt Nat instLTNat f s2.heap.objs.size := hf2
  have hf16 : f ≠ 16 := neA (by omega)
  have hf53 : f ≠ 53 := neA (by omega)
  have hn2 : s2.heap.Ns env.locals m := hn.at' fun o e => k2 _ _ hn16 hn53 e
  refine spliced_more (Call_ (ldb W G2.good.keep W.rng1 W.rng2 ?_ e1 e4 e5 e6 (by decide)))
  refine PyProof.Rows.callWith_type1 (spliced_more (wpAny_Constant_int (spliced_none ?_)))
  refine call_range_1 ?_
  have k3 : ∀ b o, s2.heap.get? b = some o → (s2.heap.push { cls := .type "range", data := .fields #[.int 0 (s2.toks + 1), .int 5 s2.toks, .int 1 (s2.toks + 1 + 1)] }).get? b = some o := fun b o e => Heap.get?_push_of_some _ e
  have hr3 : IsRange (s2.heap.push { cls := .type "range", data := .fields #[.int 0 (s2.toks + 1), .int 5 s2.toks, .int 1 (s2.toks + 1 + 1)] }) s2.heap.objs.size 0 ((5 : Nat) : Int) 1 _ _ _ := IsRange.new ..
  have z3 : s2.heap.objs.size ≤ (s2.heap.push { cls := .type "range", data := .fields #[.int 0 (s2.toks + 1), .int 5 s2.toks, .int 1 (s2.toks + 1 + 1)] }).objs.size := by rw [Heap.size_push]; exact Nat.le_succ _
  dsimp only
  generalize s2.heap.push { cls := .type "range", data := .fields #[.int 0 (s2.toks + 1), .int 5 s2.toks, .int 1 (s2.toks + 1 + 1)] } = h3 at *
  have G3 : ∀ tk, GL H0 ⟨h3, s2.gens, s2.drawn, tk, s2.os⟩ := fun tk => GL.grow W G2 k3 rfl
  refine spliced_more (ldl (s := ⟨h3, _, _, _, _⟩) (hn2.keeps k3) hm ?_ e1 e2 (by decide))
  refine spliced_none ⟨Fn30 W (G3 0).good.keep, ?_⟩
  refine reduce_range (s := ⟨h3, s2.gens, s2.drawn, _, s2.os⟩) (n := 5) (x := x) W (G3 _).good (fok_one W hf16 (hlam.k2 hf16 hf53 (K2.of k3))) (fun _ _ => trivial) hr3 (small_one (by decide) (by decide) (by decide) (by decide)) (by rw [rangeSize_one]; rfl) ⟨hx.al, by have := hx.len; omega⟩ hh hroom fun y t' s' G' k' z' o' e' I' => ?_
  rw [run_iter] at e'
  obtain ⟨h1, h2⟩ := five (tl x) hx.w
  refine hQ y t' s' ⟨e'.trans h1, by rw [e']; exact h2, I'.1, by rw [e']; exact Nat.le_trans (iter_len _ _) hx.len⟩ (GL.kp W (G3 0) G' k') (fun b o hb1 hb2 e => k' b o hb1 (k3 b o (k2 b o hb1 hb2 e))) ?_ (o'.trans o2)
  have z4 : @LE.le Nat instLENat h3.objs.size s'.heap.objs.size := z'
  have z3' : @LE.le Nat instLENat s2.heap.objs.size h3.objs.size := z3
  exact (by omega : @LE.le Nat instLENat s.heap.objs.size s'.heap.objs.size)
theorem names_stmt (W : Wd w mg mb bm ob H0) {m : Str → Option Value} {D : Addr} {vs : List Value} {xs : List Str} {k0 : Nat} {p1 p2 r1 r2 r3 r4 r5 r6 r7 r8 r9 r10 px q1 pos py spos : Pos} {Q : Flow → Shared → Prop}
    (G : GL H0 s) (hn : s.heap.Ns env.locals m) (hL0 : H0.get? env.locals = none) (hmt : m nTexts = some (.ref D)) (hD : s.heap.IsList D vs.toArray) (hvs : StrsAre vs xs) (hx4 : xs.length = 4) (hok : ∀ x ∈ xs, TextOk (tl x)) (hh : A.handled = none) (hroom : A.depth + 4 < recursionLimit)
    (e1 : env.scope.kind = .function) (c1 : closureFor nmScope env = pure []) (g1 : env.globals = mainGlobals) (g2 : env.builtins = builtinsNs) (g3 : env.kindOf nTexts = some .local) (g4 : env.kindOf nNames = some .local) (g5 : env.code = .ref 55) (g6 : env.qual ++ ("<lambda>" : Str) = Lam)
    (g7 : ∀ C, (compEnvC nmScope [] C env).kindOf nRed = some .globalImplicit) (g8 : ∀ C, (compEnvC nmScope [] C env).kindOf nRange = some .globalImplicit)
    (hsw : swapsWith (.ListComp (.Call (.Name nRed r1) [.Lambda (lamParams nTold nAgain p1 p2) (.Call (.Name nPlat r2) [.Name nTold r3] [] r4) (lamScope nTold nAgain) r5, .Call (.Name nRange r6) [.Constant (.int 5) k0 r7] [] r8, .Name nText r9] [] r10) [⟨.Name nText px, .Name nTexts q1, [], 0⟩] nmScope pos) (some (.Name nNames py)) spos.line env = pure true)
    (hQ : ∀ D' s' vs' ys, s'.heap.IsList D' vs'.toArray → StrsAre vs' ys → ys.length = 4 → (∀ (i : Nat) (y x : Str), ys[i]? = some y → xs[i]? = some x → NameOf (tl x) (tl y)) → GL H0 s' → s'.heap.Ns env.locals (fun z => if z = nNames then some (.ref D') else m z) →
      (∀ b o, b ≠ env.locals → b ≠ 16 → b ≠ 53 → s.heap.get? b = some o → s'.heap.get? b = some o) → s'.os = s.os → Q .next s') :
    wpAny (model prog w) A (exec (.Assign [.Name nNames py] (.ListComp (.Call (.Name nRed r1) [.Lambda (lamParams nTold nAgain p1 p2) (.Call (.Name nPlat r2) [.Name nTold r3] [] r4) (lamScope nTold nAgain) r5, .Call (.Name nRange r6) [.Constant (.int 5) k0 r7] [] r8, .Name nText r9] [] r10) [⟨.Name nText px, .Name nTexts q1, [], 0⟩] nmScope pos) spos) env) Q E s := by
  have hL16 := ns_ne_16 hn G.good.tab
  have hL53 := ns_ne_53 hn G.tab
  have hvl := hvs.length
  refine comp_assign W (fun i v => ∃ z t, v = .str z t ∧ ∀ x, xs[i]? = some x → NameOf (tl x) (tl z)) hsw c1 (by decide) rfl (by decide) rfl g4 (by rw [e1]; rfl) hL16 hL53 hL0 ?_
  refine ldl hn hmt ?_ e1 g3 (by decide)
  refine iter_list_cr (env := env) (scope := nmScope) (cl := []) (x := nText) (elt := (.Call (.Name nRed r1) [.Lambda (lamParams nTold nAgain p1 p2) (.Call (.Name nPlat r2) [.Name nTold r3] [] r4) (lamScope nTold nAgain) r5, .Call (.Name nRange r6) [.Constant (.int 5) k0 r7] [] r8, .Name nText r9] [] r10)) (T := fun i v => ∃ z t, v = .str z t ∧ ∀ x, xs[i]? = some x → NameOf (tl x) (tl z)) W G hD (by rw [sizeLine_eq]; simp; omega) hh ?_ ?_
  · intro C i v s₃ m₃ E' Q' hC hv hn3 hm3 G3 kw hq
    obtain ⟨x, t, rfl, hxi⟩ := hvs.item i v (by simpa using hv)
    have hxm : x ∈ xs := List.mem_of_getElem? hxi
    refine red_elt (env := compEnvC nmScope [] C env) W G3 hn3 hm3 (hok x hxm) hh hroom rfl (lookup_relabel_local rfl) (g7 C) (g8 C) g1 g2 g5 g6 fun z t' s' hz G' k' z' o' => hq _ _ ⟨z, t', rfl, fun x' hx' => ?_⟩ G' k' z' o'
    rw [hxi] at hx'; cases hx'; exact hz
  · intro J s₂ hJ k2 z2 o2 R
    have hJ' : @LE.le Nat instLENat s.heap.objs.size J := hJ
    have old : ∀ {b : Addr}, b < s.heap.objs.size → b ∉ [J] := fun {b} hb q => by
      have := ltA (a := b) (b := s.heap.objs.size) hb
      exact absurd (List.mem_singleton.mp q) (neA (by omega))
    refine ⟨J, _, _, _, _, _, m, rfl, R, old hn.lt, hn.keeps k2, fun D' s' ys hD' hl' hys hT G' hn' kw ho' => ?_⟩
    obtain ⟨zs, hzs, hzp⟩ := strs_of ys.toList (fun i z => ∀ x, xs[i]? = some x → NameOf (tl x) (tl z)) fun i v e => hT i v (by simpa using e)
    refine hQ D' s' ys.toList zs (by simpa using hl') hzs ?_ (fun i y x hy hx => hzp i y hy x hx) G' hn' (fun b o hb h1 h2 e => kw b o hb (old (Heap.lt_size e)) h1 h2 (k2 b o e)) (ho'.trans o2)
    rw [← hzs.length]
    simp only [Array.length_toList]; rw [hys]; simp; omega
/-- [_law_clean(text) for text in texts] -/
theorem clean_comp (W : Wd w mg mb bm ob H0) {m : Str → Option Value} {D : Addr} {vs : List Value} {xs : List Str} {r1 r2 r3 px q1 pos : Pos} {Q : Value → Shared → Prop}
    (G : GL H0 s) (hn : s.heap.Ns env.locals m) (hmt : m nTexts = some (.ref D)) (hD : s.heap.IsList D vs.toArray) (hvs : StrsAre vs xs) (hx4 : xs.length = 4) (hok : ∀ x ∈ xs, TextOk (tl x)) (hh : A.handled = none) (hroom : A.depth + 4 < recursionLimit)
    (e1 : env.scope.kind = .function) (c1 : closureFor clScope env = pure []) (g1 : env.globals = mainGlobals) (g3 : env.kindOf nTexts = some .local) (g7 : ∀ C, (compEnvC clScope [] C env).kindOf nClean = some .globalImplicit)
    (hQ : ∀ D' s' vs' ys, s'.heap.IsList D' vs'.toArray → StrsAre vs' ys → ys.length = 4 → (∀ (i : Nat) (y x : Str), ys[i]? = some y → xs[i]? = some x → tl y = cleanL (tl x)) → GL H0 s' → K2 s.heap s'.heap → s.heap.objs.size ≤ s'.heap.objs.size → s'.os = s.os → Q (.ref D') s') :
    wpAny (model prog w) A (eval (.ListComp (.Call (.Name nClean r1) [.Name nText r2] [] r3) [⟨.Name nText px, .Name nTexts q1, [], 0⟩] clScope pos) env) Q E s := by
  have hvl := hvs.length
  refine comp_eval W (fun i v => ∃ z t, v = .str z t ∧ ∀ x, xs[i]? = some x → tl z = cleanL (tl x)) c1 (by decide) rfl (by decide) rfl ?_
  refine ldl hn hmt ?_ e1 g3 (by decide)
  refine iter_list_cr (env := env) (scope := clScope) (cl := []) (x := nText) (elt := (.Call (.Name nClean r1) [.Name nText r2] [] r3)) (T := fun i v => ∃ z t, v = .str z t ∧ ∀ x, xs[i]? = some x → tl z = cleanL (tl x)) W G hD (by rw [sizeLine_eq]; simp; omega) hh ?_ ?_
  · intro C i v s₃ m₃ E' Q' hC hv hn3 hm3 G3 kw hq
    obtain ⟨x, t, rfl, hxi⟩ := hvs.item i v (by simpa using hv)
    have hxm : x ∈ xs := List.mem_of_getElem? hxi
    have hxo := hok x hxm
    refine Call_ (ldg (env := compEnvC clScope [] C env) W G3.good.keep W.clean ?_ rfl (g7 C) g1 (by decide))
    have hfn := Fn37 W G3.good.keep
    refine callWith_F hfn ?_
    refine spliced_more (ldl (env := compEnvC clScope [] C env) hn3 hm3 ?_ rfl (lookup_relabel_local rfl) (by decide))
    refine spliced_none ⟨hfn, ?_⟩
    refine clean_spec (x := x) W G3.good hxo.al (by rw [← tl_length]; have := hxo.len; omega) hh (by omega) fun y t' s' S e => hq _ _ ⟨y, t', rfl, fun x' hx' => ?_⟩ (GL.kp W G3 (S.good G3.good) (Kp.of S.keep)) (K2.of S.keep) S.size S.os
    rw [hxi] at hx'; cases hx'; exact e
  · intro J s₂ hJ k2 z2 o2 R
    have hJ' : @LE.le Nat instLENat s.heap.objs.size J := hJ
    have old : ∀ {b : Addr}, b < s.heap.objs.size → b ∉ [J] := fun {b} hb q => by
      have := ltA (a := b) (b := s.heap.objs.size) hb
      exact absurd (List.mem_singleton.mp q) (neA (by omega))
    refine ⟨J, _, _, _, _, _, rfl, R, fun D' s' ys hD' hl' hys hT G' kw hz' ho' => ?_⟩
    obtain ⟨zs, hzs, hzp⟩ := strs_of ys.toList (fun i z => ∀ x, xs[i]? = some x → tl z = cleanL (tl x)) fun i v e => hT i v (by simpa using e)
    refine hQ D' s' ys.toList zs (by simpa using hl') hzs ?_ (fun i y x hy hx => hzp i y hy x hx) G' (fun b o h1 h2 e => kw b o (old (Heap.lt_size e)) h1 h2 (k2 b o e)) (Nat.le_trans z2 hz') (ho'.trans o2)
    rw [← hzs.length]
    simp only [Array.length_toList]; rw [hys]; simp; omega
end
end Mine
end
section
/-! part P24 -/
open PySem PySem.W PyProof.Rows PySem.Spec PySem.SeqAt
set_option maxRecDepth 100000
namespace Mine
theorem kfill24 : (PySem.Challenge.rw_mr0080_01 = PySem.Challenge.rw_mr0080_01) ∧ (hd.heap_39 = hd.heap_39) := by
  k_fill; exact ⟨rfl, rfl⟩
abbrev nStart : Str := Str.ofString "start"
abbrev nEnd : Str := Str.ofString "end"
abbrev nPart : Str := Str.ofString "part"
abbrev nLeft : Str := Str.ofString "left"
abbrev nRight : Str := Str.ofString "right"
abbrev nJoined : Str := Str.ofString "_law_joined"
def NmRow (xs : List Str) : Prop := ∀ x ∈ xs, Nm (tl x) ∧ Al (tl x) ∧ (tl x).length ≤ 35
section
variable {prog : Program} {w : World} {A : Around} {E : Value → Shared → Prop} {s : Shared} {mg mb : Str → Option Value} {bm : Addr} {ob : Obj} {H0 : Heap} {env : Env}
theorem Wd.joined (W : Wd w mg mb bm ob H0) : mg nJoined = some (.ref 44) := mg_of W.X W.g (by k_is)
theorem Fn44 (W : Wd w mg mb bm ob H0) {h : Heap} (k : ∀ b o, H0.get? b = some o → h.get? b = some o) : FnAt 44 h := ⟨_, _, _, _, k _ _ (W.X 44 _ (by k_is))⟩
/-- the frame of the law: nothing but L and the tables turns -/
abbrev K3 (L : Addr) (h h' : Heap) : Prop := ∀ b o, b ≠ L → b ≠ 16 → b ≠ 53 → h.get? b = some o → h'.get? b = some o
theorem stG {m : Str → Option Value} {x : Str} {v : Value} {Q : Unit → Shared → Prop} (W : Wd w mg mb bm ob H0) (G : GL H0 s) (hn : s.heap.Ns env.locals m) (hL0 : H0.get? env.locals = none)
    (h : ∀ h', h'.Ns env.locals (fun y => if y = x then some v else m y) → Heap.SameBut env.locals s.heap h' → (∀ tk, GL H0 { s with heap := h', toks := tk }) → Q () { s with heap := h', toks := s.toks + 1 })
    (e1 : env.scope.kind = .function) (hl : env.kindOf x = some .local) : wpAny (model prog w) A (storeName env x v) Q E s := by
  refine wpAny_storeName_local hl hn (fun h' hn' hs' => h h' hn' hs' fun tk => ?_) (by rw [e1]; rfl)
  have mem1 : ∀ {a b : Addr}, b ∈ [a] → b = a := fun h => List.mem_singleton.mp h
  exact GL.but W (wr := [env.locals]) G (fun b hb => by rw [mem1 hb]; exact hL0) (fun q => ns_ne_16 hn G.good.tab (mem1 q).symm) (fun q => ns_ne_53 hn G.tab (mem1 q).symm) (fun b hb => by rw [mem1 hb]; exact NotCd.ns hn) (fun b o hb e => hs'.extBut b o (fun q => hb (by simp [q])) e) G.good.bare
theorem star_h {l : Addr} {vs : List Value} {Q : List Value → Shared → Prop} (hl : s.heap.IsList l vs.toArray) (hz : vs.length ≤ sizeLine) (h : ∀ h', (∀ b o', s.heap.get? b = some o' → h'.get? b = some o') → s.heap.objs.size ≤ h'.objs.size ∨ True → Q vs { s with heap := h' }) : StarOf (model prog w) A E (.ref l) Q s := by
  obtain ⟨o, e, hc, n, hd⟩ := id hl
  have z : wpAny (model prog w) A (collect (.ref l)) Q E s := wpAny_collect_seq l (.inl rfl) e hc hd (fun h' hk => h h' hk (.inr trivial)) (by simpa using hz)
  unfold StarOf notIterableAtAll
  exact wpAny_bind (wpAny_specialOf hl.typeIs PySem.F.slot_list_iter.lookup (wpAny_pure ⟨rfl, z⟩))
theorem names_isNm {vs : List Value} {xs : List Str} (hvs : StrsAre vs xs) (hok : NmRow xs) (h8 : xs.length ≤ 8) : ∀ (i : Nat) v, vs.toArray[i]? = some v → IsNm ((xs.map tl).getD i []) v ∧ i < 8 := by
  intro i v hv
  obtain ⟨x, t, rfl, hx⟩ := hvs.item i v (by simpa using hv)
  have hm := hok x (List.mem_of_getElem? hx)
  have hi : i < xs.length := by
    rcases Nat.lt_or_ge i xs.length with h | h
    · exact h
    · rw [List.getElem?_eq_none h] at hx; cases hx
  refine ⟨⟨x, t, rfl, ?_, ?_⟩, by omega⟩
  · simp [List.getD_eq_getElem?_getD, hx]
  · have e : (xs.map tl).getD i [] = tl x := by simp [List.getD_eq_getElem?_getD, hx]
    rw [e]; exact ⟨hm.1, hm.2.1, by omega⟩
theorem head_get {vs : List Value} {xs : List Str} (hvs : StrsAre vs xs) (h : xs ≠ []) : ∃ x t, vs.toArray[0]? = some (.str x t) ∧ (xs.map tl).getD 0 [] = tl x ∧ x ∈ xs := by
  cases hvs with
  | nil => exact absurd rfl h
  | cons y t r => exact ⟨y, t, rfl, rfl, .head _⟩
/-- left = reduce(_platform, part) -/
theorem left_expr (W : Wd w mg mb bm ob H0) {m : Str → Option Value} {D : Addr} {vs : List Value} {xs : List Str} {r1 r2 r3 r4 : Pos} {Q : Value → Shared → Prop} (G : GL H0 s) (hn : s.heap.Ns env.locals m) (hmp : m nPart = some (.ref D)) (hD : s.heap.IsList D vs.toArray) (hvs : StrsAre vs xs) (hok : NmRow xs) (hne : xs ≠ []) (h8 : xs.length ≤ 4)
    (hh : A.handled = none) (hroom : A.depth + 4 < recursionLimit) (e1 : env.scope.kind = .function) (e2 : env.kindOf nPart = some .local) (e3 : env.kindOf nRed = some .globalImplicit) (e4 : env.kindOf nPlat = some .globalImplicit) (e5 : env.globals = mainGlobals)
    (hQ : ∀ y t s', tl y = jn (xs.map tl) → GL H0 s' → K2 s.heap s'.heap → s.heap.objs.size ≤ s'.heap.objs.size → s'.os = s.os → Q (.str y t) s') :
    wpAny (model prog w) A (eval (.Call (.Name nRed r1) [.Name nPlat r2, .Name nPart r3] [] r4) env) Q E s := by
  refine Call_ (ldg W G.good.keep W.red ?_ e1 e3 e5 (by decide))
  refine callWith_F (Fn30 W G.good.keep) ?_
  refine spliced_more (ldg W G.good.keep W.plat ?_ e1 e4 e5 (by decide))
  refine spliced_more (ldl hn hmp ?_ e1 e2 (by decide))
  refine spliced_none ⟨Fn30 W G.good.keep, ?_⟩
  obtain ⟨x0, t0, hx0, hd0, hm0⟩ := head_get hvs hne
  have hk0 := hok x0 hm0
  refine reduce_list (x := x0) (t := t0) W G.good (fok_plat W G.good.keep fun i => (xs.map tl).getD i []) (names_isNm hvs hok (by omega)) hD hx0 ⟨hk0.1, hk0.2.1, by omega⟩ hh hroom fun y t' s' G' k' z' o' e' I' => ?_
  refine hQ y t' s' ?_ (GL.kp W G G' k') (K2.kp k') z' o'
  rw [e', ← hd0]
  have := left_jn (xs.map tl) (by simpa using hne)
  rw [← this]
  have hl : vs.toArray.size = (xs.map tl).length := by simp [hvs.length]
  rw [hl]
theorem StrsAre.reverse'' {vs : List Value} {xs : List Str} (h : StrsAre vs xs) : StrsAre vs.reverse xs.reverse := by
  induction h with
  | nil => exact .nil
  | cons y t r ih => rw [List.reverse_cons, List.reverse_cons]; exact ih.append' (.cons y t .nil)
/-- right = reduce(lambda behind, ahead: _platform(ahead, behind), part[::-1]) -/
theorem right_expr (W : Wd w mg mb bm ob H0) {m : Str → Option Value} {D : Addr} {vs : List Value} {xs : List Str} {k0 : Nat} {p1 p2 r1 r2 r3 r4 r5 r6 r7 r8 r9 r10 r11 r12 : Pos} {Q : Value → Shared → Prop} (G : GL H0 s) (hn : s.heap.Ns env.locals m) (hmp : m nPart = some (.ref D)) (hD : s.heap.IsList D vs.toArray) (hvs : StrsAre vs xs) (hok : NmRow xs) (hne : xs ≠ []) (h8 : xs.length ≤ 4)
    (hh : A.handled = none) (hroom : A.depth + 4 < recursionLimit) (e1 : env.scope.kind = .function) (e2 : env.kindOf nPart = some .local) (e3 : env.kindOf nRed = some .globalImplicit) (e5 : env.globals = mainGlobals) (e7 : env.code = .ref 55) (e8 : env.qual ++ ("<lambda>" : Str) = Lam)
    (hQ : ∀ y t s', tl y = jn (xs.map tl) → GL H0 s' → K2 s.heap s'.heap → s.heap.objs.size ≤ s'.heap.objs.size → s'.os = s.os → Q (.str y t) s') :
    wpAny (model prog w) A (eval (.Call (.Name nRed r1) [.Lambda (lamParams nBeh nAh p1 p2) (.Call (.Name nPlat r2) [.Name nAh r3, .Name nBeh r4] [] r5) (lamScope nBeh nAh) r6,
      .Subscript (.Name nPart r7) (.Slice none none (some (.UnaryOp .USub (.Constant (.int 1) k0 r8) r9)) r10) r11] [] r12) env) Q E s := by
  refine Call_ (ldg W G.good.keep W.red ?_ e1 e3 e5 (by decide))
  refine callWith_F (Fn30 W G.good.keep) ?_
  refine spliced_more (lam_new W G rfl e5 e7 e8 rfl fun f s2 G2 k2 hf1 hf2 o2 hlam => ?_)
  have hn16 := ns_ne_16 hn G.good.tab
  have hn53 := ns_ne_53 hn G.tab
  have h53s := G.lt53
  have hf1' : @LE.le Nat instLENat s.heap.objs.size f := hf1
  have hf2' : @LT.lt Nat instLTNat f s2.heap.objs.size := hf2
  have hf16 : f ≠ 16 := neA (by omega)
  have hf53 : f ≠ 53 := neA (by omega)
  have hn2 : s2.heap.Ns env.locals m := hn.at' fun o e => k2 _ _ hn16 hn53 e
  have hD2 := hD.at fun o e => k2 _ o (list_ne_16 hD G.good.tab) (list_ne_53 hD G.tab) e
  have hvl := hvs.length
  refine spliced_more (Subscript_ (ldl hn2 hmp ?_ e1 e2 (by decide)))
  refine wpAny_Slice ?_
  refine evalPart_none_step (evalPart_none_step (evalPart_some_step (UnaryOp_ (wpAny_Constant_int (PyProof.Rows.neg_int ?_)))))
  refine slice_h (s := ⟨s2.heap, _, _, _, _⟩) hD2 .none .none (.int _ _) (by decide) (by rw [sizeLine_eq]; simp; omega) (fun h3 k3 z3 l3 => ?_)
  dsimp only at k3 z3 l3 ⊢
  rw [krv_pick] at l3
  have G3 : ∀ tk, GL H0 ⟨h3, s2.gens, s2.drawn, tk, s2.os⟩ := fun tk => GL.grow W G2 k3 rfl
  refine spliced_none ⟨Fn30 W (G3 0).good.keep, ?_⟩
  have hrv : StrsAre vs.reverse xs.reverse := StrsAre.reverse'' hvs
  have hrok : NmRow xs.reverse := fun x hx => hok x (by simpa using hx)
  have hrne : xs.reverse ≠ [] := by simpa using hne
  obtain ⟨x0, t0, hx0, hd0, hm0⟩ := head_get hrv hrne
  have hk0 := hrok x0 hm0
  refine reduce_list (s := ⟨h3, s2.gens, s2.drawn, _, s2.os⟩) (x := x0) (t := t0) W (G3 _).good (fok_back W (fun i => (xs.reverse.map tl).getD i []) hf16 (hlam.k2 hf16 hf53 (K2.of k3))) (names_isNm hrv hrok (by simp; omega)) l3 hx0 ⟨hk0.1, hk0.2.1, by omega⟩ hh hroom fun y t' s' G' k' z' o' e' I' => ?_
  refine hQ y t' s' ?_ (GL.kp W (G3 0) G' k') (fun b o hb1 hb2 e => k' b o hb1 (k3 b o (k2 b o hb1 hb2 e))) ?_ (o'.trans o2)
  · rw [e', ← hd0]
    have := right_jn (xs.map tl) (by simpa using hne)
    rw [← List.map_reverse] at this
    rw [← this]
    have hl : vs.reverse.toArray.size = (xs.reverse.map tl).length := by simp [hvs.length]
    rw [hl]
  · have z4 : @LE.le Nat instLENat h3.objs.size s'.heap.objs.size := z'
    have z3' : @LE.le Nat instLENat s2.heap.objs.size h3.objs.size := z3
    exact (by omega : @LE.le Nat instLENat s.heap.objs.size s'.heap.objs.size)
/-- _law_joined(names) -/
theorem joined_expr (W : Wd w mg mb bm ob H0) {m : Str → Option Value} {x : Str} {D : Addr} {vs : List Value} {xs : List Str} {r1 r2 r3 : Pos} {Q : Value → Shared → Prop} (G : GL H0 s) (hn : s.heap.Ns env.locals m) (hmp : m x = some (.ref D)) (hD : s.heap.IsList D vs.toArray) (hvs : StrsAre vs xs) (hok : NmRow xs) (h8 : xs.length ≤ 4)
    (hh : A.handled = none) (hroom : A.depth + 4 < recursionLimit) (e1 : env.scope.kind = .function) (e2 : env.kindOf x = some .local) (e3 : env.kindOf nJoined = some .globalImplicit) (e5 : env.globals = mainGlobals) (hxd : (x == ("__debug__" : Str)) = false)
    (hQ : ∀ y t s', tl y = jn (xs.map tl) → GL H0 s' → (∀ b o, s.heap.get? b = some o → s'.heap.get? b = some o) → s.heap.objs.size ≤ s'.heap.objs.size → s'.os = s.os → Q (.str y t) s') :
    wpAny (model prog w) A (eval (.Call (.Name nJoined r1) [.Name x r2] [] r3) env) Q E s := by
  refine Call_ (ldg W G.good.keep W.joined ?_ e1 e3 e5 (by decide))
  refine callWith_F (Fn44 W G.good.keep) ?_
  refine spliced_more (ldl hn hmp ?_ e1 e2 hxd)
  refine spliced_none ⟨Fn44 W G.good.keep, ?_⟩
  refine joined_spec W G.good hD hvs (fun z hz => by rw [← tl_length]; have := (hok z hz).2.2; omega) (by omega) hh (by omega) fun y t' s' S e => hQ y t' s' e (GL.kp W G (S.good G.good) (Kp.of S.keep)) S.keep S.size S.os
/-- _platform(*part) -/
theorem all_expr (W : Wd w mg mb bm ob H0) {m : Str → Option Value} {D : Addr} {vs : List Value} {xs : List Str} {r1 r2 r3 r4 : Pos} {Q : Value → Shared → Prop} (G : GL H0 s) (hn : s.heap.Ns env.locals m) (hmp : m nPart = some (.ref D)) (hD : s.heap.IsList D vs.toArray) (hvs : StrsAre vs xs) (hok : NmRow xs) (h8 : xs.length ≤ 4)
    (hh : A.handled = none) (hroom : A.depth + 4 < recursionLimit) (e1 : env.scope.kind = .function) (e2 : env.kindOf nPart = some .local) (e3 : env.kindOf nPlat = some .globalImplicit) (e5 : env.globals = mainGlobals)
    (hQ : ∀ y t s', tl y = jn (xs.map tl) → GL H0 s' → K2 s.heap s'.heap → s'.os = s.os → Q (.str y t) s') :
    wpAny (model prog w) A (eval (.Call (.Name nPlat r1) [.Starred (.Name nPart r2) r3] [] r4) env) Q E s := by
  have hvl := hvs.length
  refine Call_ (ldg W G.good.keep W.plat ?_ e1 e3 e5 (by decide))
  refine ks_call (P := FnAt 21) rfl keeps_F (ks_lone ?_)
  refine ldl hn hmp ?_ e1 e2 (by decide)
  refine star_h hD (by rw [sizeLine_eq]; omega) fun h2 k2 _ => ?_
  have G2 : GL H0 { s with heap := h2 } := GL.grow W G k2 rfl
  refine ⟨Fn21 W G2.good.keep, ?_⟩
  refine plat_spec (s := { s with heap := h2 }) W G2.good hvs (fun z hz => (hok z hz).2.1) (fun z hz => by rw [← tl_length]; have := (hok z hz).2.2; omega) (by omega) hh (by omega) fun y t' s' G' k' z' o' e' => ?_
  refine hQ y t' s' ?_ (GL.kp W G2 G' k') (fun b o h1 h2 e => k' b o h1 (k2 b o e)) o'
  rw [show tl y = _ from e']
  exact platL_nm _ fun n hn => by
    obtain ⟨z, hz, rfl⟩ := List.mem_map.mp hn
    exact (hok z hz).1
end
end Mine
end
section
/-! part P25 -/
open PySem PySem.W PyProof.Rows PySem.Spec PySem.SeqAt
set_option maxRecDepth 100000
namespace Mine
section
variable {prog : Program} {w : World} {A : Around} {E : Value → Shared → Prop} {s : Shared} {mg mb : Str → Option Value} {bm : Addr} {ob : Obj} {H0 : Heap} {env : Env}
/-- what the code's environment must tell -/
structure EnvOk (env : Env) : Prop where
  kind : env.scope.kind = .function
  gl : env.globals = mainGlobals
  bi : env.builtins = builtinsNs
  code : env.code = .ref 55
  qual : env.qual ++ ("<lambda>" : Str) = Lam
  names : env.kindOf nNames = some .local
  start : env.kindOf nStart = some .local
  end_ : env.kindOf nEnd = some .local
  part : env.kindOf nPart = some .local
  left : env.kindOf nLeft = some .local
  right : env.kindOf nRight = some .local
  red : env.kindOf nRed = some .globalImplicit
  plat : env.kindOf nPlat = some .globalImplicit
  joined : env.kindOf nJoined = some .globalImplicit
  range : env.kindOf nRange = some .globalImplicit
theorem body_stmt (W : Wd w mg mb bm ob H0) (EO : EnvOk env) {m : Str → Option Value} {D : Addr} {vs : List Value} {xs : List Str} {a b : Nat} {ta tb : Tok} {k0 k1 k2 : Nat}
    {b1 b2 b3 b4 b5 b6 b7 c1 c2 c3 c4 c5 c6 p1 p2 r1 r2 r3 r4 r5 r6 r7 r8 r9 r10 r11 r12 d1 d2 q1 q2 q3 q4 q5 q6 q7 q8 q9 q10 q11 q12 q13 q14 q15 q16 q17 : Pos} {Q : Flow → Shared → Prop}
    (G : GL H0 s) (hn : s.heap.Ns env.locals m) (hL0 : H0.get? env.locals = none) (hmn : m nNames = some (.ref D)) (hms : m nStart = some (.int a ta)) (hme : m nEnd = some (.int b tb)) (hD : s.heap.IsList D vs.toArray) (hvs : StrsAre vs xs) (hx4 : xs.length = 4) (hok : NmRow xs)
    (hab : a < b) (hb4 : b ≤ 4) (hh : A.handled = none) (hroom : A.depth + 4 < recursionLimit) (hu : A.units < cLine)
    (hQ : ∀ s' m', s'.heap.Ns env.locals m' → (∀ y, y ≠ nPart → y ≠ nLeft → y ≠ nRight → m' y = m y) → GL H0 s' → K3 env.locals s.heap s'.heap → s'.os = s.os → Q .next s') :
    wpAny (model prog w) A (execs [
      .Assign [.Name nPart b1] (.Subscript (.Name nNames b2) (.Slice (some (.Name nStart b3)) (some (.Name nEnd b4)) none b5) b6) b7,
      .Assign [.Name nLeft c1] (.Call (.Name nRed c2) [.Name nPlat c3, .Name nPart c4] [] c5) c6,
      .Assign [.Name nRight d1] (.Call (.Name nRed r1) [.Lambda (lamParams nBeh nAh p1 p2) (.Call (.Name nPlat r2) [.Name nAh r3, .Name nBeh r4] [] r5) (lamScope nBeh nAh) r6,
        .Subscript (.Name nPart r7) (.Slice none none (some (.UnaryOp .USub (.Constant (.int 1) k0 r8) r9)) r10) r11] [] r12) d2,
      .If (.Compare (.List [.Name nLeft q1, .Name nRight q2, .Call (.Name nPlat q3) [.Starred (.Name nPart q4) q5] [] q6] q7) [.NotEq] [.BinOp (.List [.Call (.Name nJoined q8) [.Name nPart q9] [] q10] q11) .Mult (.Constant (.int 3) k1 q12) q13] q14)
        [.Return (some (.Constant (.bool false) k2 q15)) q16] [] q17] env) Q E s := by
  have hL16 := ns_ne_16 hn G.good.tab
  have hL53 := ns_ne_53 hn G.tab
  have hvl := hvs.length
  have hDL := list_ne_ns hD hn
  have hD16 := list_ne_16 hD G.good.tab
  have hD53 := list_ne_53 hD G.tab
  -- part = names[start:end]
  refine wpAny_execs_cons (wpAny_Assign_Name (Subscript_ (ldl hn hmn ?_ EO.kind EO.names (by decide))))
  refine wpAny_Slice ?_
  refine evalPart_some_step (ldl hn hms (evalPart_some_step (ldl hn hme (evalPart_none_step ?_) EO.kind EO.end_ (by decide))) EO.kind EO.start (by decide))
  refine slice_h hD (.int _ _) (.int _ _) .none (by simp) (by rw [sizeLine_eq]; simp; omega) (fun h1 k1 z1 l1 => ?_)
  rw [slicePick_run vs.toArray a b (by simp; omega) (by omega)] at l1
  have hpv : StrsAre ((vs.drop a).take (b - a)) ((xs.drop a).take (b - a)) := (hvs.drop' a).take' (b - a)
  have hpl : ((xs.drop a).take (b - a)).length = b - a := by rw [List.length_take, List.length_drop]; omega
  have hpok : NmRow ((xs.drop a).take (b - a)) := fun x hx => hok x (List.mem_of_mem_drop (List.mem_of_mem_take hx))
  have hpne : ((xs.drop a).take (b - a)) ≠ [] := fun q => by rw [q] at hpl; simp at hpl; omega
  have hp4 : ((xs.drop a).take (b - a)).length ≤ 4 := by omega
  have l1' : h1.IsList (s.heap.objs.size + 1) ((vs.drop a).take (b - a)).toArray := l1
  generalize (vs.drop a).take (b - a) = pv at *
  generalize (xs.drop a).take (b - a) = pxs at *
  generalize hPd : s.heap.objs.size + 1 = P at *
  have G1 : GL H0 { s with heap := h1 } := GL.grow W G k1 rfl
  have hn1 := hn.keeps k1
  refine stG (s := { s with heap := h1 }) W G1 hn1 hL0 (fun h2 hn2 S2 G2 => ?_) EO.kind EO.part
  have hPL := list_ne_ns l1' hn1
  have hP2 : h2.IsList P pv.toArray := l1'.at fun o e => S2.extBut _ _ hPL e
  have K12 : K3 env.locals s.heap h2 := fun c o hc _ _ e => S2.extBut c o hc (k1 c o e)
  -- left
  refine wpAny_execs_cons (wpAny_Assign_Name ?_)
  refine left_expr (s := ⟨h2, _, _, _, _⟩) W (G2 _) hn2 (if_pos rfl) hP2 hpv hpok hpne hp4 hh hroom EO.kind EO.part EO.red EO.plat EO.gl fun yl tl' s3 el G3 k3 z3 o3 => ?_
  have hn3 := hn2.at' fun o e => k3 _ o hL16 hL53 e
  have hP16 := list_ne_16 hP2 (G2 0).good.tab
  have hP53 := list_ne_53 hP2 (G2 0).tab
  have hP3 := hP2.at fun o e => k3 _ o hP16 hP53 e
  refine stG W G3 hn3 hL0 (fun h4 hn4 S4 G4 => ?_) EO.kind EO.left
  have hP4 := hP3.at fun o e => S4.extBut _ o hPL e
  have K14 : K3 env.locals s.heap h4 := fun c o hc h1 h2 e => S4.extBut c o hc (k3 c o h1 h2 (K12 c o hc h1 h2 e))
  -- right
  refine wpAny_execs_cons (wpAny_Assign_Name ?_)
  refine right_expr (s := ⟨h4, _, _, _, _⟩) W (G4 _) hn4 ((if_neg (by decide)).trans (if_pos rfl)) hP4 hpv hpok hpne hp4 hh hroom EO.kind EO.part EO.red EO.gl EO.code EO.qual fun yr tr s5 er G5 k5 z5 o5 => ?_
  have hn5 := hn4.at' fun o e => k5 _ o hL16 hL53 e
  have hP5 := hP4.at fun o e => k5 _ o hP16 hP53 e
  refine stG W G5 hn5 hL0 (fun h6 hn6 S6 G6 => ?_) EO.kind EO.right
  have hP6 := hP5.at fun o e => S6.extBut _ o hPL e
  have K16 : K3 env.locals s.heap h6 := fun c o hc h1 h2 e => S6.extBut c o hc (k5 c o h1 h2 (K14 c o hc h1 h2 e))
  -- the test
  refine wpAny_execs_cons (wpAny_If (wpAny_isTrue_Compare1 ?_))
  refine List_ (spliced_more (ldl (s := ⟨h6, _, _, _, _⟩) hn6 ((if_neg (by decide)).trans (if_pos rfl)) ?_ EO.kind EO.left (by decide)))
  refine spliced_more (ldl (s := ⟨h6, _, _, _, _⟩) hn6 (if_pos rfl) ?_ EO.kind EO.right (by decide))
  refine spliced_more (all_expr (s := ⟨h6, _, _, _, _⟩) W (G6 _) hn6 ((if_neg (by decide)).trans ((if_neg (by decide)).trans (if_pos rfl))) hP6 hpv hpok hp4 hh hroom EO.kind EO.part EO.plat EO.gl fun ya ta' s7 ea G7 k7 o7 => ?_)
  refine spliced_none ?_
  refine wpAny_newObj_type ?_ (by size_fits)
  have hn7 := hn6.at' fun o e => k7 _ o hL16 hL53 e
  have hP7 := hP6.at fun o e => k7 _ o hP16 hP53 e
  have k8 : ∀ b o, s7.heap.get? b = some o → (s7.heap.push (listObj #[.str yl tl', .str yr tr, .str ya ta'])).get? b = some o := fun b o e => Heap.get?_push_of_some _ e
  have i8 : (s7.heap.push (listObj #[.str yl tl', .str yr tr, .str ya ta'])).IsList s7.heap.objs.size [Value.str yl tl', .str yr tr, .str ya ta'].toArray := isList_new _
  have G8 : GL H0 { s7 with heap := s7.heap.push (listObj #[.str yl tl', .str yr tr, .str ya ta']) } := GL.grow W G7 k8 rfl
  refine wpAny_BinOp (List_ (spliced_more ?_))
  refine joined_expr (s := { s7 with heap := s7.heap.push (listObj #[.str yl tl', .str yr tr, .str ya ta']) }) W G8 (hn7.keeps k8) ((if_neg (by decide)).trans ((if_neg (by decide)).trans (if_pos rfl))) (hP7.at fun o e => k8 _ _ e) hpv hpok hp4 hh hroom EO.kind EO.part EO.joined EO.gl (by decide) fun yj tj s9 ej G9 k9 z9 o9 => ?_
  refine spliced_none ?_
  refine wpAny_newObj_type ?_ (by size_fits)
  refine wpAny_Constant_int ?_
  have k10 : ∀ b o, s9.heap.get? b = some o → (s9.heap.push (listObj #[.str yj tj])).get? b = some o := fun b o e => Heap.get?_push_of_some _ e
  refine mul_h (s := { s9 with heap := s9.heap.push (listObj #[.str yj tj]), toks := s9.toks + 1 }) (Heap.get?_push_size _ rfl) (fun h11 k11 z11 i11 => ?_)
  have el' : yl = yj := tl_inj (el.trans ej.symm)
  have er' : yr = yj := tl_inj (er.trans ej.symm)
  have ea' : ya = yj := tl_inj (ea.trans ej.symm)
  subst el' er' ea'
  refine ne_h (s := ⟨h11, _, _, _, _⟩) ((i8.at fun o e => k9 _ _ e).at fun o e => k11 _ _ (k10 _ _ e)) (ws := [.str ya tj, .str ya tj, .str ya tj]) i11 (xs := [ya, ya, ya]) (.cons _ _ (.cons _ _ (.cons _ _ .nil))) (.cons _ _ (.cons _ _ (.cons _ _ .nil))) hu (wpAny_truthy_bool ?_)
  rw [if_neg Bool.false_ne_true]
  refine wpAny_execs_nil ?_
  refine wpAny_execs_nil ?_
  have k711 : ∀ b o, s7.heap.get? b = some o → h11.get? b = some o := fun b o e => k11 b o (k10 b o (k9 b o (k8 b o e)))
  refine hQ ⟨h11, s9.gens, s9.drawn, s9.toks + 1, s9.os⟩ _ (hn7.keeps k711) (fun y h1 h2 h3 => ?_) (GL.grow W G9 (fun b o e => k11 b o (k10 b o e)) rfl) (fun c o hc h1 h2 e => k711 c o (k7 c o h1 h2 (K16 c o hc h1 h2 e))) ?_
  · rw [if_neg h3, if_neg h2, if_neg h1]
  · exact o9.trans (o7.trans (o5.trans (o3.trans rfl)))
end
end Mine
end
section
/-! part P26 -/
open PySem PySem.W PyProof.Rows PySem.Spec PySem.SeqAt
set_option maxRecDepth 100000
namespace Mine
section
variable {prog : Program} {w : World} {A : Around} {E : Value → Shared → Prop} {s : Shared} {mg mb : Str → Option Value} {bm : Addr} {ob : Obj} {H0 : Heap} {env : Env}
theorem range_ne_ns {h : Heap} {J L : Addr} {x l c : Int} {m : Str → Option Value} (q : IsRangeIter h J x l c) (F : h.Ns L m) : J ≠ L := fun r => by
  obtain ⟨o2, es, ep, e2, hd2, _⟩ := F
  have e : h.get? J = _ := q
  rw [r, e2] at e; cases e; cases hd2
/-- for x in an iterator of a range -/
theorem for_range {x : Str} {px : Pos} {body : List Stmt} {base n : Nat} {J : Addr} {ys : List Str} {m₂ : Str → Option Value} {s₂ : Shared} {R : Result → Shared → Prop} (W : Wd w mg mb bm ob H0) (e1 : env.scope.kind = .function) (hxl : env.kindOf x = some .local) (hx : x ∈ ys) (hh : A.handled = none)
    (st : IsRangeIter s₂.heap J ((base : Int) + ((0 : Nat) : Int) * 1) ((n : Int) - ((0 : Nat) : Int)) 1) (G : GL H0 s₂) (hn : s₂.heap.Ns env.locals m₂) (hL0 : H0.get? env.locals = none) (hJ0 : H0.get? J = none) (hJ16 : J ≠ 16) (hJ53 : J ≠ 53)
    (turn : ∀ (i : Nat) s' m' t E' Q', i < n → GL H0 s' → s'.heap.Ns env.locals m' → m' x = some (.int ((base + i : Nat) : Int) t) → (∀ y, y ∉ ys → m' y = m₂ y) → (∀ b o, b ≠ env.locals → b ≠ 16 → b ≠ 53 → b ≠ J → s₂.heap.get? b = some o → s'.heap.get? b = some o) →
      (∀ s'' m'', s''.heap.Ns env.locals m'' → (∀ y, y ∉ ys → m'' y = m₂ y) → GL H0 s'' → K3 env.locals s'.heap s''.heap → s''.os = s'.os → Q' .next s'') → wpAny (model prog w) A (execs body env) Q' E' s')
    (hR : ∀ s' m', GL H0 s' → s'.heap.Ns env.locals m' → (∀ y, y ∉ ys → m' y = m₂ y) → (∀ b o, b ≠ env.locals → b ≠ 16 → b ≠ 53 → b ≠ J → s₂.heap.get? b = some o → s'.heap.get? b = some o) → s'.os = s₂.os → R (.ok .next) s') :
    codeAny (model prog w) A (.forLoop (.Name x px) (.ref J) body [] env) R s₂ := by
  have Wk := Walks.range (prog := prog) (w := w) (A := A) hh J base 1 n
  have hJL := range_ne_ns st hn
  have mem1 : ∀ {a b : Addr}, b ∈ [a] → b = a := fun h => List.mem_singleton.mp h
  refine codeAny_forLoop (fun k s' => ∃ i m', i + k = n ∧ IsRangeIter s'.heap J ((base : Int) + ((i : Nat) : Int) * 1) ((n : Int) - ((i : Nat) : Int)) 1 ∧ s'.heap.Ns env.locals m' ∧ (∀ y, y ∉ ys → m' y = m₂ y) ∧ GL H0 s' ∧
      (∀ b o, b ≠ env.locals → b ≠ 16 → b ≠ 53 → b ≠ J → s₂.heap.get? b = some o → s'.heap.get? b = some o) ∧ s'.os = s₂.os) ?_ n
    ⟨0, m₂, Nat.zero_add _, st, hn, fun _ _ => rfl, G, fun _ _ _ _ _ _ e => e, rfl⟩
  rintro k s' ⟨i, m', hi, st', hn', hm', G', k', o'⟩
  cases k with
  | zero =>
    obtain rfl : i = n := by omega
    refine Wk.done s' _ _ st' fun h4 tk hk4 => ?_
    have hk4' : ∀ b o, b ≠ J → s'.heap.get? b = some o → h4.get? b = some o := fun b o hb e => hk4 b o (fun q => hb (mem1 q)) e
    refine wpAny_execs_nil ?_
    exact hR { s' with heap := h4, toks := tk } m' (GL.but W (wr := [J]) G' (fun b hb => by rw [mem1 hb]; exact hJ0) (fun q => hJ16 (mem1 q).symm) (fun q => hJ53 (mem1 q).symm) (fun b hb => by rw [mem1 hb]; exact NotCd.rangeIter st') hk4 G'.good.bare)
      (hn'.at' fun o e => hk4' _ o (Ne.symm hJL) e) hm' (fun b o h1 h2 h3 h5 e => hk4' b o h5 (k' b o h1 h2 h3 h5 e)) o'
  | succ k =>
    refine Wk.item i s' _ _ (by omega) st' fun v h4 tk hP st4 hk4 => ?_
    obtain ⟨tv, rfl⟩ := hP
    have hk4' : ∀ b o, b ≠ J → s'.heap.get? b = some o → h4.get? b = some o := fun b o hb e => hk4 b o (fun q => hb (mem1 q)) e
    have G4 : GL H0 { s' with heap := h4, toks := tk } := GL.but W (wr := [J]) G' (fun b hb => by rw [mem1 hb]; exact hJ0) (fun q => hJ16 (mem1 q).symm) (fun q => hJ53 (mem1 q).symm) (fun b hb => by rw [mem1 hb]; exact NotCd.rangeIter st') hk4 G'.good.bare
    have hn4 := hn'.at' fun o e => hk4' _ o (Ne.symm hJL) e
    refine wpAny_assign_Name (stG (s := { s' with heap := h4, toks := tk }) W G4 hn4 hL0 (fun h5 hn5 S5 G5 => ?_) e1 hxl)
    have st5 : IsRangeIter h5 J ((base : Int) + ((i + 1 : Nat) : Int) * 1) ((n : Int) - ((i + 1 : Nat) : Int)) 1 := S5.extBut _ _ hJL st4
    refine turn i { s' with heap := h5, toks := tk + 1 } _ tv _ _ (by omega) (G5 _) hn5 ?_ (fun y hy => ?_) (fun b o h1 h2 h3 h6 e => S5.extBut b o h1 (hk4' b o h6 (k' b o h1 h2 h3 h6 e))) fun s'' m'' hn'' hm'' G'' k'' o'' => ?_
    · rw [if_pos rfl]
      congr 2
      omega
    · have hyx : ¬ y = x := fun q => hy (by rw [q]; exact hx)
      rw [if_neg hyx]; exact hm' y hy
    · exact ⟨k, Nat.lt_succ_self _, i + 1, m'', by omega, k'' _ _ hJL hJ16 hJ53 st5, hn'', hm'', G'', fun b o h1 h2 h3 h6 e => k'' b o h1 h2 h3 (S5.extBut b o h1 (hk4' b o h6 (k' b o h1 h2 h3 h6 e))), o''.trans o'⟩
/-- range(a, b) as an iterator -/
theorem range_iter2 {a b : Nat} {ta tb : Tok} {Q : Value → Shared → Prop} (hab : a ≤ b) (hb : b ≤ 1000)
    (h : ∀ J h' tk, (∀ b o, s.heap.get? b = some o → h'.get? b = some o) → s.heap.objs.size ≤ J → J < h'.objs.size → IsRangeIter h' J ((a : Int) + ((0 : Nat) : Int) * 1) (((b - a : Nat) : Int) - ((0 : Nat) : Int)) 1 → Q (.ref J) { s with heap := h', toks := tk }) :
    wpAny (model prog w) A (call (.type "range") [.int a ta, .int b tb]) (fun v s₁ => wpAny (model prog w) A (pyIter v) Q E s₁) E s := by
  refine call_range_2 ?_
  have hrs : Builtin.Range.rangeSize (a : Int) (b : Int) 1 = ((b - a : Nat) : Int) := by rw [rangeSize_one]; split <;> omega
  refine wpAny_pyIter_range (IsRange.new ..) (small_one (by omega) (by omega) (by omega) (by omega)) ?_
  rw [hrs]
  refine h _ _ _ (fun b o e => Heap.get?_push_of_some _ (Heap.get?_push_of_some _ e)) ?_ ?_ ?_
  · simp only [Heap.size_push]; exact Nat.le_succ _
  · simp only [Heap.size_push]; exact Nat.lt_succ_self _
  · have := Heap.get?_push_size (s.heap.push { cls := .type "range", data := .fields #[.int a ta, .int b tb, .int 1 s.toks] }) (o := { cls := .type "range_iterator", data := .fields #[rawInt a, rawInt ((b - a : Nat) : Int), rawInt 1] }) rfl
    simpa using this
def BodyOk (prog : Program) (w : World) (A : Around) (H0 : Heap) (env : Env) (body : List Stmt) (D : Addr) (vs : List Value) : Prop :=
  ∀ (s : Shared) (m : Str → Option Value) (a b : Nat) (ta tb : Tok) (E : Value → Shared → Prop) (Q : Flow → Shared → Prop), GL H0 s → s.heap.Ns env.locals m → m nNames = some (.ref D) → m nStart = some (.int a ta) → m nEnd = some (.int b tb) → s.heap.IsList D vs.toArray → a < b → b ≤ 4 →
    (∀ s' m', s'.heap.Ns env.locals m' → (∀ y, y ≠ nPart → y ≠ nLeft → y ≠ nRight → m' y = m y) → GL H0 s' → K3 env.locals s.heap s'.heap → s'.os = s.os → Q .next s') → wpAny (model prog w) A (execs body env) Q E s
theorem K3.list {h h' : Heap} {L D : Addr} {vs : Array Value} (hD : h.IsList D vs) (h1 : D ≠ L) (h2 : D ≠ 16) (h3 : D ≠ 53) (k : K3 L h h') : h'.IsList D vs := hD.at fun o e => k _ o h1 h2 h3 e
abbrev inNames : List Str := [nEnd, nPart, nLeft, nRight]
abbrev outNames : List Str := [nStart, nEnd, nPart, nLeft, nRight]
theorem inner_for (W : Wd w mg mb bm ob H0) (EO : EnvOk env) {m : Str → Option Value} {body : List Stmt} {D : Addr} {vs : List Value} {a : Nat} {ta : Tok} {k3 k4 : Nat} {e1 e2 e3 e4 e5 e6 e7 e8 : Pos} {Q : Flow → Shared → Prop} (B : BodyOk prog w A H0 env body D vs)
    (G : GL H0 s) (hn : s.heap.Ns env.locals m) (hL0 : H0.get? env.locals = none) (hmn : m nNames = some (.ref D)) (hms : m nStart = some (.int a ta)) (ha : a < 4) (hD : s.heap.IsList D vs.toArray) (hh : A.handled = none)
    (hQ : ∀ s' m', s'.heap.Ns env.locals m' → (∀ y, y ∉ inNames → m' y = m y) → GL H0 s' → K3 env.locals s.heap s'.heap → s'.os = s.os → Q .next s') :
    wpAny (model prog w) A (exec (.For (.Name nEnd e1) (.Call (.Name nRange e2) [.BinOp (.Name nStart e3) .Add (.Constant (.int 1) k3 e4) e5, .Constant (.int 5) k4 e6] [] e7) body [] e8) env) Q E s := by
  refine wpAny_For (Call_ (ldb W G.good.keep W.rng1 W.rng2 ?_ EO.kind EO.range EO.gl EO.bi (by decide)))
  refine PyProof.Rows.callWith_type1 (spliced_more (wpAny_BinOp (ldl hn hms ?_ EO.kind EO.start (by decide))))
  refine wpAny_Constant_int (PyProof.Rows.add_int ?_)
  refine spliced_more (wpAny_Constant_int (spliced_none ?_))
  have ea : ((a : Int) + 1) = ((a + 1 : Nat) : Int) := by omega
  rw [ea]
  refine range_iter2 (a := a + 1) (b := 5) (by omega) (by omega) fun J h2 tk k2 hJ1 hJ2 st2 => ?_
  dsimp only at k2 hJ1 hJ2 st2 ⊢
  have hJ1' : @LE.le Nat instLENat s.heap.objs.size J := hJ1
  have h53s := G.lt53
  have G2 : GL H0 { s with heap := h2, toks := tk } := GL.grow W G k2 rfl
  have hJ0 : H0.get? J = none := by
    cases e : H0.get? J with
    | none => rfl
    | some o => exact absurd (Heap.lt_size (G.good.keep _ _ e)) (Nat.not_lt.mpr hJ1)
  have oldJ : ∀ {b : Addr} {o : Obj}, s.heap.get? b = some o → b ≠ J := fun {b o} e => by
    have := ltA (a := b) (b := s.heap.objs.size) (Heap.lt_size e)
    exact neA (by omega)
  have hDL := list_ne_ns hD hn
  have hD16 := list_ne_16 hD G.good.tab
  have hD53 := list_ne_53 hD G.tab
  have hDJ : D ≠ J := by obtain ⟨o, e, _⟩ := hD; exact oldJ e
  refine for_range (s₂ := { s with heap := h2, toks := tk }) (ys := inNames) (base := a + 1) (n := 5 - (a + 1)) W EO.kind EO.end_ (by decide) hh st2 G2 (hn.keeps k2) hL0 hJ0 (neA (by omega)) (neA (by omega)) ?_ ?_
  · intro i s' m' t E' Q' hi G' hn' hmx hm' k' hq
    refine B s' m' a (a + 1 + i) ta t E' Q' G' hn' ((hm' _ (by decide)).trans hmn) ((hm' _ (by decide)).trans hms) hmx (hD.at fun o e => k' _ o hDL hD16 hD53 hDJ (k2 _ _ e)) (by omega) (by omega) fun s'' m'' hn'' hm'' G'' k'' o'' => hq s'' m'' hn'' (fun y hy => ?_) G'' k'' o''
    simp only [List.mem_cons, List.not_mem_nil, or_false, not_or] at hy
    exact (hm'' y hy.2.1 hy.2.2.1 hy.2.2.2).trans (hm' y (by simp only [List.mem_cons, List.not_mem_nil, or_false, not_or]; exact hy))
  · intro s' m' G' hn' hm' k' o'
    exact hQ s' m' hn' hm' G' (fun b o h1 h2 h3 e => k' b o h1 h2 h3 (oldJ e) (k2 b o e)) o'
theorem outer_for (W : Wd w mg mb bm ob H0) (EO : EnvOk env) {m : Str → Option Value} {body : List Stmt} {D : Addr} {vs : List Value} {k3 k4 k5 : Nat} {e1 e2 e3 e4 e5 e6 e7 e8 f1 f2 f3 f4 f5 : Pos} {Q : Flow → Shared → Prop} (B : BodyOk prog w A H0 env body D vs)
    (G : GL H0 s) (hn : s.heap.Ns env.locals m) (hL0 : H0.get? env.locals = none) (hmn : m nNames = some (.ref D)) (hD : s.heap.IsList D vs.toArray) (hh : A.handled = none)
    (hQ : ∀ s' m', s'.heap.Ns env.locals m' → (∀ y, y ∉ outNames → m' y = m y) → GL H0 s' → K3 env.locals s.heap s'.heap → s'.os = s.os → Q .next s') :
    wpAny (model prog w) A (exec (.For (.Name nStart f1) (.Call (.Name nRange f2) [.Constant (.int 4) k5 f3] [] f4)
      [.For (.Name nEnd e1) (.Call (.Name nRange e2) [.BinOp (.Name nStart e3) .Add (.Constant (.int 1) k3 e4) e5, .Constant (.int 5) k4 e6] [] e7) body [] e8] [] f5) env) Q E s := by
  refine wpAny_For (Call_ (ldb W G.good.keep W.rng1 W.rng2 ?_ EO.kind EO.range EO.gl EO.bi (by decide)))
  refine PyProof.Rows.callWith_type1 (spliced_more (wpAny_Constant_int (spliced_none ?_)))
  refine range_iter (s := { s with toks := s.toks + 1 }) (n := 4) (by decide) fun r J h2 tk k2 hJ1 hJ2 st2 hr => ?_
  subst hr
  dsimp only at k2 hJ1 hJ2 st2 ⊢
  have hJ1' : @LE.le Nat instLENat s.heap.objs.size J := hJ1
  have h53s := G.lt53
  have G2 : GL H0 { s with heap := h2, toks := tk } := GL.grow W G k2 rfl
  have hJ0 : H0.get? J = none := by
    cases e : H0.get? J with
    | none => rfl
    | some o => exact absurd (Heap.lt_size (G.good.keep _ _ e)) (Nat.not_lt.mpr hJ1)
  have oldJ : ∀ {b : Addr} {o : Obj}, s.heap.get? b = some o → b ≠ J := fun {b o} e => by
    have := ltA (a := b) (b := s.heap.objs.size) (Heap.lt_size e)
    exact neA (by omega)
  have hDL := list_ne_ns hD hn
  have hD16 := list_ne_16 hD G.good.tab
  have hD53 := list_ne_53 hD G.tab
  have hDJ : D ≠ J := by obtain ⟨o, e, _⟩ := hD; exact oldJ e
  refine for_range (s₂ := { s with heap := h2, toks := tk }) (ys := outNames) (base := 0) (n := 4) W EO.kind EO.start (by decide) hh st2 G2 (hn.keeps k2) hL0 hJ0 (neA (by omega)) (neA (by omega)) ?_ ?_
  · intro i s' m' t E' Q' hi G' hn' hmx hm' k' hq
    refine wpAny_execs_cons (inner_for (a := 0 + i) (ta := t) W EO B G' hn' hL0 ((hm' _ (by decide)).trans hmn) hmx (by omega) (hD.at fun o e => k' _ o hDL hD16 hD53 hDJ (k2 _ _ e)) hh fun s'' m'' hn'' hm'' G'' k'' o'' => ?_)
    refine wpAny_execs_nil ?_
    refine hq s'' m'' hn'' (fun y hy => ?_) G'' k'' o''
    have hy' := hy
    simp only [List.mem_cons, List.not_mem_nil, or_false, not_or] at hy
    exact (hm'' y (by simp only [List.mem_cons, List.not_mem_nil, or_false, not_or]; exact hy.2)).trans (hm' y hy')
  · intro s' m' G' hn' hm' k' o'
    exact hQ s' m' hn' hm' G' (fun b o h1 h2 h3 e => k' b o h1 h2 h3 (oldJ e) (k2 b o e)) o'
end
end Mine
end
section
/-! part P27 -/
open PySem PySem.W PyProof.Rows PySem.Spec PySem.SeqAt
set_option maxRecDepth 100000
namespace Mine
theorem kfill27 : (PySem.Challenge.rw_mr0080_01 = PySem.Challenge.rw_mr0080_01) ∧ (hd.heap_39 = hd.heap_39) := by
  k_fill; exact ⟨rfl, rfl⟩
abbrev nScript : Str := Str.ofString "script"
abbrev nDrawn : Str := Str.ofString "drawn"
abbrev nMerged : Str := Str.ofString "_law_merged"
inductive StrCs : List Expr → List Str → Prop
  | nil : StrCs [] []
  | cons (x : Str) (k : Nat) (p : Pos) {es : List Expr} {xs : List Str} : StrCs es xs → StrCs (.Constant (.str x) k p :: es) (x :: xs)
inductive IntCs : List Expr → List Int → Prop
  | nil : IntCs [] []
  | cons (x : Int) (k : Nat) (p : Pos) {es : List Expr} {xs : List Int} : IntCs es xs → IntCs (.Constant (.int x) k p :: es) (x :: xs)
def d20 : List Int := [1, 5, 15, 13, 3, 13, 7, 8, 0, 12, 11, 5, 4, 8, 13, 8, 2, 9, 0, 5]
section
variable {prog : Program} {w : World} {A : Around} {E : Value → Shared → Prop} {mg mb : Str → Option Value} {bm : Addr} {ob : Obj} {H0 : Heap} {env : Env}
theorem str_consts {M : Model} {pos : Pos} : ∀ {es : List Expr} {xs : List Str}, StrCs es xs → ∀ (s : Shared) (Q : List Value → Shared → Prop), (∀ vs tk, StrsAre vs xs → Q vs { s with toks := tk }) → wpAny M A (spliced (backTo pos (starEach es env))) Q E s := by
  intro es xs h
  induction h with
  | nil => exact fun s Q h => spliced_none (h [] s.toks .nil)
  | cons x k p _ ih => exact fun s Q h => spliced_more (Calls.Constant_str (ih _ _ fun vs tk hv => h _ tk (.cons x _ hv)))
theorem int_consts {M : Model} {pos : Pos} : ∀ {es : List Expr} {xs : List Int}, IntCs es xs → ∀ (s : Shared) (Q : List Value → Shared → Prop), (∀ vs tk, IntsAre vs xs → Q vs { s with toks := tk }) → wpAny M A (spliced (backTo pos (starEach es env))) Q E s := by
  intro es xs h
  induction h with
  | nil => exact fun s Q h => spliced_none (h [] s.toks .nil)
  | cons x k p _ ih => exact fun s Q h => spliced_more (wpAny_Constant_int (ih _ _ fun vs tk hv => h _ tk (.cons x _ hv)))
theorem Wd.merged (W : Wd w mg mb bm ob H0) : mg nMerged = some (.ref 51) := mg_of W.X W.g (by k_is)
theorem Fn51 (W : Wd w mg mb bm ob H0) {h : Heap} (k : ∀ b o, H0.get? b = some o → h.get? b = some o) : FnAt 51 h := ⟨_, _, _, _, k _ _ (W.X 51 _ (by k_is))⟩
theorem NotCd.cell {h : Heap} {b : Addr} {v : Option Value} (x : h.IsCell b v) : NotCd h b := fun oc vs t e d _ => by
  obtain ⟨o, e2, hd⟩ := x
  rw [e2] at e; cases e; rw [hd] at d; cases d
/-- a store into a cell -/
theorem stCell {s : Shared} {x : Str} {c : Addr} {v₀ : Option Value} {v : Value} {Q : Unit → Shared → Prop} (W : Wd w mg mb bm ob H0) (G : GL H0 s) (hc0 : H0.get? c = none) (hc : env.cells.lookup x = some c) (hv : s.heap.IsCell c v₀)
    (h : ∀ h', h'.IsCell c (some v) → Heap.SameBut c s.heap h' → (∀ tk, GL H0 { s with heap := h', toks := tk }) → Q () { s with heap := h' }) (e1 : env.scope.kind = .function) (hl : env.kindOf x = some .cell) : wpAny (model prog w) A (storeName env x v) Q E s := by
  refine wpAny_storeName_cell e1 hl hc hv fun h' hv' hs' => h h' hv' hs' fun tk => ?_
  have mem1 : ∀ {a b : Addr}, b ∈ [a] → b = a := fun h => List.mem_singleton.mp h
  exact GL.but W (wr := [c]) G (fun b hb => by rw [mem1 hb]; exact hc0) (fun q => cell_ne_16 hv G.good.tab (mem1 q).symm) (fun q => cell_ne_53 hv G.tab (mem1 q).symm) (fun b hb => by rw [mem1 hb]; exact NotCd.cell hv) (fun b o hb e => hs'.extBut b o (fun q => hb (by simp [q])) e) G.good.bare
theorem rowOk_of {xs : List Str} (h : NmRow xs) (hl : xs.length ≤ 4) : RowOk xs := by
  refine ⟨fun x hx => ⟨(h x hx).1, (h x hx).2.1⟩, ?_⟩
  have : ∀ l : List Str, NmRow l → (l.map fun x => (tl x).length + 1).sum ≤ 36 * l.length := by
    intro l
    induction l with
    | nil => intro _; simp
    | cons a r ih =>
      intro h
      have h1 := ih fun x hx => h x (.tail _ hx)
      have h2 := (h a (.head _)).2.2
      simp only [List.map_cons, List.sum_cons, List.length_cons]; omega
  have := this xs h
  omega
/-- return _law_merged(names, numbers[:3]) == [_law_joined(names)] -/
theorem last_expr {s : Shared} (W : Wd w mg mb bm ob H0) (EO : EnvOk env) {m : Str → Option Value} {D cN N : Addr} {vs is : List Value} {xs : List Str} {ns : List Int} {k0 : Nat} {r1 r2 r3 r4 r5 r6 r7 r8 r9 r10 r11 r12 : Pos} {Q : Value → Shared → Prop}
    (G : GL H0 s) (hn : s.heap.Ns env.locals m) (hmn : m nNames = some (.ref D)) (hD : s.heap.IsList D vs.toArray) (hvs : StrsAre vs xs) (hx4 : xs.length = 4) (hok : NmRow xs) (hN : s.heap.IsCell cN (some (.ref N))) (hNl : s.heap.IsList N is.toArray) (his : IntsAre is ns) (hns : ns.length = 20)
    (hh : A.handled = none) (hroom : A.depth + 4 < recursionLimit) (hu : A.units < cLine) (e1 : env.kindOf nMerged = some .globalImplicit) (e2 : env.kindOf nNum = some .cell) (e3 : env.cells.lookup nNum = some cN)
    (hQ : ∀ s', GL H0 s' → K2 s.heap s'.heap → s'.os = s.os → Q (.bool true) s') :
    wpAny (model prog w) A (eval (.Compare (.Call (.Name nMerged r1) [.Name nNames r2, .Subscript (.Name nNum r3) (.Slice none (some (.Constant (.int 3) k0 r4)) none r5) r6] [] r7) [.Eq] [.List [.Call (.Name nJoined r8) [.Name nNames r9] [] r10] r11] r12) env) Q E s := by
  have hL16 := ns_ne_16 hn G.good.tab
  have hL53 := ns_ne_53 hn G.tab
  have hD16 := list_ne_16 hD G.good.tab
  have hD53 := list_ne_53 hD G.tab
  refine wpAny_Compare1 (Call_ (ldg W G.good.keep W.merged ?_ EO.kind e1 EO.gl (by decide)))
  refine callWith_F (Fn51 W G.good.keep) ?_
  refine spliced_more (ldl hn hmn ?_ EO.kind EO.names (by decide))
  refine spliced_more (Subscript_ (ldc e3 hN ?_ EO.kind e2 (by decide)))
  refine wpAny_Slice (evalPart_none_step (evalPart_some_step (wpAny_Constant_int (evalPart_none_step ?_))))
  refine slice_h (s := ⟨s.heap, _, _, _, _⟩) hNl .none (.int _ _) .none (by simp) (by rw [sizeLine_eq]; simp; rw [his.length]; omega) (fun h1 k1 z1 l1 => ?_)
  dsimp only at k1 z1 l1 ⊢
  rw [show (3 : Int) = ((3 : Nat) : Int) from rfl, slicePick_upto'] at l1
  have G1 : ∀ tk, GL H0 ⟨h1, s.gens, s.drawn, tk, s.os⟩ := fun tk => GL.grow W G k1 rfl
  refine spliced_none ⟨Fn51 W (G1 0).good.keep, ?_⟩
  refine merged_spec (s := ⟨h1, s.gens, s.drawn, _, s.os⟩) W (G1 _).good (hD.at fun o e => k1 _ _ e) hvs (rowOk_of hok (by omega)) l1 (his.take 3) (by rw [List.length_take]; omega) (by omega) hh (by omega) fun R y t s2 G2 k2 z2 o2 hR ey => ?_
  have G2' : GL H0 s2 := GL.kp W (G1 0) G2 k2
  have hn2 : s2.heap.Ns env.locals m := hn.at' fun o e => k2 _ _ hL16 (k1 _ _ e)
  have hD2 := hD.at fun o e => k2 _ o hD16 (k1 _ _ e)
  refine List_ (spliced_more (joined_expr W G2' hn2 hmn hD2 hvs hok (by omega) hh hroom EO.kind EO.names EO.joined EO.gl (by decide) fun yj tj s3 ej G3 k3 z3 o3 => ?_))
  refine spliced_none (wpAny_newObj_type ?_ (by size_fits))
  have k4 : ∀ b o, s3.heap.get? b = some o → (s3.heap.push (listObj #[.str yj tj])).get? b = some o := fun b o e => Heap.get?_push_of_some _ e
  have i4 : (s3.heap.push (listObj #[.str yj tj])).IsList s3.heap.objs.size [Value.str yj tj].toArray := isList_new _
  have e : y = yj := tl_inj (ey.trans ej.symm)
  subst e
  refine eq_h (s := { s3 with heap := s3.heap.push (listObj #[.str y tj]) }) (vs := [.str y t]) (xs := [y]) (hR.at fun o e => k4 _ _ (k3 _ _ e)) i4 (.cons _ _ .nil) (.cons _ _ .nil) hu ?_
  exact hQ _ (GL.grow W G3 k4 rfl) (fun b o h1 h2 e => k4 b o (k3 b o (k2 b o h1 (k1 b o e)))) (o3.trans o2)
end
end Mine
end
section
/-! part P28a -/
open PySem PySem.W PyProof.Rows PySem.Spec PySem.SeqAt
set_option maxRecDepth 100000
namespace Mine
section
variable {env : Env}
theorem swaps_ok {elt : Expr} {gens : List Comprehension} {scope : Scope} {pos tp : Pos} {t : Str} {line : Nat} (e1 : env.scope.kind = .function) (hl : env.kindOf t = some .local) (hp : (tp.line == pos.line) = true) (hs : (scope.names.any fun (n, k) => n == t && (k == .local || k == .cell)) = false) :
    swapsWith (.ListComp elt gens scope pos) (some (.Name t tp)) line env = pure true := by
  show pure (env.blockKind == .function && env.kindOf t == some .local && tp.line == pos.line && !(scope.names.any fun (n, k) => n == t && (k == .local || k == .cell))) = pure true
  have hb : env.blockKind = .function := by unfold Env.blockKind; rw [e1]; rfl
  rw [hb, hl, hp, hs]; rfl
theorem clos_out {cN cP : Addr} (c1 : env.cells.lookup nPcs = some cP) (c2 : env.cells.lookup nNum = some cN) : closureFor outScope env = pure [(nPcs, cP), (nNum, cN)] := by
  have h1 : cellOf env nPcs = pure cP := by unfold cellOf; rw [c1]
  have h2 : cellOf env nNum = pure cN := by unfold cellOf; rw [c2]
  unfold closureFor
  simp only [List.forIn_cons, List.forIn_nil]
  simp [h1, h2]
theorem relab_out (e1 : env.scope.kind = .function) (l5 : env.kindOf nNum = some .cell) (l4 : env.kindOf nPcs = some .cell) :
    relabel outScope env = ⟨.function, [(Str.ofString ".0", .local), (nK, .local), (nNum, .cell), (nPcs, .cell)], false, false, []⟩ := by
  unfold relabel
  simp only [List.map_cons, List.map_nil]
  rw [e1, l5, l4]; rfl
theorem out_num {cl : List (Str × Addr)} (C : Addr) (e1 : env.scope.kind = .function) (l5 : env.kindOf nNum = some .cell) (l4 : env.kindOf nPcs = some .cell) : (compEnvC outScope cl C env).kindOf nNum = some .cell := by
  show (relabel outScope env).names.lookup nNum = _
  rw [relab_out e1 l5 l4]; decide +kernel
theorem out_pcs {cl : List (Str × Addr)} (C : Addr) (e1 : env.scope.kind = .function) (l5 : env.kindOf nNum = some .cell) (l4 : env.kindOf nPcs = some .cell) : (compEnvC outScope cl C env).kindOf nPcs = some .cell := by
  show (relabel outScope env).names.lookup nPcs = _
  rw [relab_out e1 l5 l4]; decide +kernel
theorem in_pcs {cl : List (Str × Addr)} (C : Addr) (e1 : env.scope.kind = .function) (l4 : env.kindOf nPcs = some .cell) : (compEnvC inScope cl C env).kindOf nPcs = some .cell := by
  have : relabel inScope env = ⟨.function, [(Str.ofString ".0", .local), (nX, .local), (nPcs, .cell)], false, false, []⟩ := by
    unfold relabel
    simp only [List.map_cons, List.map_nil]
    rw [e1, l4]; rfl
  show (relabel inScope env).names.lookup nPcs = _
  rw [this]; decide +kernel
theorem clos_in {cP : Addr} (c1 : env.cells.lookup nPcs = some cP) : closureFor inScope env = pure [(nPcs, cP)] := by
  have h1 : cellOf env nPcs = pure cP := by unfold cellOf; rw [c1]
  unfold closureFor
  simp only [List.forIn_cons, List.forIn_nil]
  simp [h1]
theorem gi_of {scope : Scope} {x : Str} : ∀ (names : List (Str × NameKind)), names.lookup x = some .globalImplicit →
    (names.map fun (n, k) => if (k == NameKind.free && env.scope.kind == .function && env.kindOf n == some .cell) then (n, NameKind.cell) else (n, k)).lookup x = some .globalImplicit
  | [], h => by simp at h
  | (n, k) :: r, h => by
    have ih := gi_of (scope := scope) (x := x) r
    show List.lookup x ((if (k == NameKind.free && env.scope.kind == .function && env.kindOf n == some .cell) = true then (n, NameKind.cell) else (n, k)) :: _) = _
    cases hx : x == n with
    | true =>
      simp only [List.lookup_cons, hx] at h
      cases h
      simp [List.lookup_cons, hx]
    | false =>
      simp only [List.lookup_cons, hx] at h
      by_cases hc : (k == NameKind.free && env.scope.kind == .function && env.kindOf n == some .cell) = true
      · rw [if_pos hc]; simp only [List.lookup_cons, hx]; exact ih h
      · rw [if_neg hc]; simp only [List.lookup_cons, hx]; exact ih h
theorem comp_gi {scope : Scope} {cl : List (Str × Addr)} {x : Str} (C : Addr) (h : scope.names.lookup x = some .globalImplicit) : (compEnvC scope cl C env).kindOf x = some .globalImplicit := gi_of (scope := scope) scope.names h
end
end Mine
end
section
/-! part P28 -/
open PySem PySem.W PyProof.Rows PySem.Spec PySem.SeqAt
set_option maxRecDepth 100000
namespace Mine
theorem kfill28 : (PySem.Challenge.rw_mr0080_01 = PySem.Challenge.rw_mr0080_01) ∧ (hd.heap_39 = hd.heap_39) := by
  k_fill; exact ⟨rfl, rfl⟩
section
variable {prog : Program} {w : World} {A : Around} {E : Value → Shared → Prop} {s : Shared} {mg mb : Str → Option Value} {bm : Addr} {ob : Obj} {H0 : Heap}
/-- all that the law's environment must tell -/
structure LawEnv (env : Env) (L : Addr) : Prop where
  ok : EnvOk env
  loc : env.locals = L
  script : env.kindOf nScript = some .local
  drawn : env.kindOf nDrawn = some .local
  texts : env.kindOf nTexts = some .local
  pcs : env.kindOf nPcs = some .cell
  num : env.kindOf nNum = some .cell
  len : env.kindOf nLen = some .globalImplicit
  merged : env.kindOf nMerged = some .globalImplicit
  cP : env.cells.lookup nPcs = some (L + 1)
  cN : env.cells.lookup nNum = some (L + 1 + 1)
theorem gen_env {M : Model} {body : List Stmt} {e : Env} {L : Addr} {Q : Flow → Shared → Prop} {E : Value → Shared → Prop} {s : Shared} (LE : LawEnv e L) (h : ∀ env, LawEnv env L → wpAny M (A.deeper env) (execs body env) Q E s) : wpAny M (A.deeper e) (execs body e) Q E s := h e LE
theorem law_spec (W : Wd w mg mb bm ob H0) {l : Addr} {is : List Value} {ns : List Int} {Q : Value → Shared → Prop} (G : GL H0 s) (hl : s.heap.IsList l is.toArray) (his : IntsAre is ns) (hns : ns.length ≤ 1000) (hh : A.handled = none) (hroom : A.depth + 6 < recursionLimit) (hu : A.units + 10 < cLine)
    (hQ : ∀ s', GL H0 s' → K2 s.heap s'.heap → s'.os = s.os → Q (.bool true) s') :
    wpAny (model prog w) A (call (.ref 56) [.ref l]) Q E s := by
  refine wpAny_call ?_
  have X := W.X
  have ho := G.good.keep _ _ (X 56 _ (by k_is))
  refine call_cells_ret (by omega) ho rfl (W.lim.keeps G.good.keep) ((codeRec_of X (by k_is)).keeps G.good.keep) rfl (fun x hx => by rw [List.mem_singleton.mp hx]; exact .inl rfl) (fun h1 tk1 F0 C0 => ?_)
  clear ho
  have hh' : (A.deeper (envOfC (Str.ofString "law") ⟨.function, [], false, false, []⟩ 0 0 .none)).handled = none := hh
  have h53s := G.lt53
  have hl16 := list_ne_16 hl G.good.tab
  have hl53 := list_ne_53 hl G.tab
  have hllt := ltA (a := l) (b := s.heap.objs.size) (isList_lt hl)
  have fresh : ∀ {b : Addr}, s.heap.objs.size ≤ b → H0.get? b = none := fun {b} hb => G.none_of (Heap.get?_none_of_le hb)
  have hL0 : H0.get? s.heap.objs.size = none := fresh (Nat.le_refl _)
  have hP0 : H0.get? (s.heap.objs.size + 1) = none := fresh (Nat.le_succ _)
  have hN0 : H0.get? (s.heap.objs.size + 1 + 1) = none := fresh (Nat.le_trans (Nat.le_succ _) (Nat.le_succ _))
  have old : ∀ {b : Addr} {o : Obj}, s.heap.get? b = some o → @LT.lt Nat instLTNat b s.heap.objs.size := fun e => Heap.lt_size e
  obtain ⟨m0, hn1, hm0⟩ : ∃ m0, h1.Ns s.heap.objs.size m0 ∧ m0 nScript = some (.ref l) := ⟨_, F0.ns, rfl⟩
  have cP1 : h1.IsCell (s.heap.objs.size + 1) none := C0.cell nPcs (s.heap.objs.size + 1) rfl
  have cN1 : h1.IsCell (s.heap.objs.size + 1 + 1) none := C0.cell nNum (s.heap.objs.size + 1 + 1) rfl
  have k1 := F0.keep
  clear F0 C0
  have G1 : ∀ tk, GL H0 ⟨h1, s.gens, s.drawn, tk, s.os⟩ := fun tk => GL.grow W G k1 rfl
  generalize hL : s.heap.objs.size = L at *
  refine gen_env (L := L) (LE := ?EO) (h := ?go)
  case EO => exact ⟨⟨rfl, rfl, rfl, rfl, by kernel_rfl, by kernel_rfl, by kernel_rfl, by kernel_rfl, by kernel_rfl, by kernel_rfl, by kernel_rfl, by kernel_rfl, by kernel_rfl, by kernel_rfl, by kernel_rfl⟩, rfl, by kernel_rfl, by kernel_rfl, by kernel_rfl, by kernel_rfl, by kernel_rfl, by kernel_rfl, by kernel_rfl, by kernel_rfl, by kernel_rfl⟩
  case go =>
  intro env LE
  obtain ⟨EO, hloc, l1, l2, l3, l4, l5, l6, l7, c1, c2⟩ := LE
  have hEL : ∀ {b : Addr}, b ≠ env.locals ↔ b ≠ L := fun {b} => by rw [hloc]
  have hn1 : h1.Ns env.locals m0 := by rw [hloc]; exact hn1
  have hL0 : H0.get? env.locals = none := by rw [hloc]; exact hL0
  have hnP : L ≠ L + 1 := neA (by omega)
  have hnN : L ≠ L + 1 + 1 := neA (by omega)
  have hPN : L + 1 ≠ L + 1 + 1 := neA (by omega)
  have oldL : ∀ {b : Addr} {o : Obj}, s.heap.get? b = some o → b ≠ L := fun e => neA (Nat.ne_of_lt (old e))
  have oldP : ∀ {b : Addr} {o : Obj}, s.heap.get? b = some o → b ≠ L + 1 := fun e => neA (by have := old e; omega)
  have oldN : ∀ {b : Addr} {o : Obj}, s.heap.get? b = some o → b ≠ L + 1 + 1 := fun e => neA (by have := old e; omega)
  have hhA : (A.deeper env).handled = none := hh
  have hroomA : (A.deeper env).depth + 4 < recursionLimit := by show A.depth + 1 + 4 < recursionLimit; omega
  have huA : (A.deeper env).units < cLine := by show A.units + 3 < cLine; omega
  have hil := his.length
  -- pieces
  refine wpAny_execs_cons ?_
  refine wpAny_Assign_Name ?_
  refine List_ ?_
  refine str_consts (xs := pcs) ?hc _ _ ?_
  case hc => repeat constructor
  intro ps tk2 hps
  refine wpAny_newObj_type ?_ (by size_fits)
  have k2 : ∀ b o, h1.get? b = some o → (h1.push (listObj ps.toArray)).get? b = some o := fun b o e => Heap.get?_push_of_some _ e
  have i2 : (h1.push (listObj ps.toArray)).IsList h1.objs.size ps.toArray := isList_new _
  have G2 : ∀ tk, GL H0 ⟨h1.push (listObj ps.toArray), s.gens, s.drawn, tk, s.os⟩ := fun tk => GL.grow W (G1 tk) k2 rfl
  dsimp only
  generalize hPPe : h1.objs.size = PP at i2 ⊢
  generalize h1.push (listObj ps.toArray) = h2 at *
  refine stCell (s := ⟨h2, s.gens, s.drawn, _, s.os⟩) W (G2 _) hP0 c1 (cP1.keeps k2) ?_ EO.kind l4
  intro h3 cP3 S3 G3
  have hPPc : PP ≠ L + 1 := fun q => by
    obtain ⟨o, e, hc, n, hd⟩ := i2
    obtain ⟨o2, e2, hd2⟩ := cP1.keeps k2
    rw [q, e2] at e; cases e; rw [hd2] at hd; cases hd
  have i3 : h3.IsList PP ps.toArray := i2.at fun o e => S3.extBut _ _ hPPc e
  have cN3 : h3.IsCell (L + 1 + 1) none := by
    obtain ⟨o, e, hd⟩ := cN1
    exact ⟨o, S3.extBut _ _ (Ne.symm hPN) (k2 _ _ e), hd⟩
  have hn3 : h3.Ns env.locals m0 := (hn1.keeps k2).at' fun o e => S3.extBut _ _ (by rw [hloc]; exact hnP) e
  have K3' : ∀ b o, s.heap.get? b = some o → h3.get? b = some o := fun b o e => S3.extBut b o (oldP e) (k2 b o (k1 b o e))
  clear S3 G2 i2 k2 G1 cP1 cN1 hn1
  -- drawn = script[:20]
  refine wpAny_execs_cons ?_
  refine wpAny_Assign_Name ?_
  refine Subscript_ ?_
  refine ldl (s := ⟨h3, _, _, _, _⟩) hn3 hm0 ?_ EO.kind l1 (by decide)
  refine wpAny_Slice ?_
  refine evalPart_none_step ?_
  refine evalPart_some_step ?_
  refine wpAny_Constant_int ?_
  refine evalPart_none_step ?_
  refine slice_h (s := ⟨h3, _, _, _, _⟩) (hl.at fun o e => K3' _ _ e) .none (.int _ _) .none (by simp) (by rw [sizeLine_eq]; simp; omega) ?_
  intro h4 k4 z4 i4
  rw [show (20 : Int) = ((20 : Nat) : Int) from rfl, slicePick_upto'] at i4
  dsimp only at k4 z4 i4 ⊢
  have i4' : h4.IsList (h3.objs.size + 1) (is.take 20).toArray := i4
  generalize h3.objs.size + 1 = DD at i4' ⊢
  clear i4
  have G4 : ∀ tk, GL H0 ⟨h4, s.gens, s.drawn, tk, s.os⟩ := fun tk => GL.grow W (G3 tk) k4 rfl
  have hn4 := hn3.keeps k4
  refine stG (s := ⟨h4, s.gens, s.drawn, _, s.os⟩) W (G4 _) hn4 hL0 ?_ EO.kind l2
  intro h5 hn5 S5 G5
  rw [hloc] at S5
  have hDDL : DD ≠ L := by rw [← hloc]; exact list_ne_ns i4' hn4
  have i5 : h5.IsList DD (is.take 20).toArray := i4'.at fun o e => S5.extBut _ _ hDDL e
  have hPPL : PP ≠ L := by rw [← hloc]; exact list_ne_ns i3 hn3
  have p5 : h5.IsList PP ps.toArray := i3.at fun o e => S5.extBut _ _ hPPL (k4 _ _ e)
  have cP5 : h5.IsCell (L + 1) (some (.ref PP)) := by
    obtain ⟨o, e, hd⟩ := cP3
    exact ⟨o, S5.extBut _ _ (Ne.symm hnP) (k4 _ _ e), hd⟩
  have cN5 : h5.IsCell (L + 1 + 1) none := by
    obtain ⟨o, e, hd⟩ := cN3
    exact ⟨o, S5.extBut _ _ (Ne.symm hnN) (k4 _ _ e), hd⟩
  have K5 : ∀ b o, s.heap.get? b = some o → h5.get? b = some o := fun b o e => S5.extBut b o (oldL e) (k4 b o (K3' b o e))
  clear S5 G4 i4' hn4 k4 z4 hn3 cP3 cN3 i3 G3 K3'
  -- numbers
  refine wpAny_execs_cons ?_
  refine wpAny_Assign_Name ?_
  refine wpAny_BinOp ?_
  refine ldl (s := ⟨h5, _, _, _, _⟩) hn5 (if_pos rfl) ?_ EO.kind l2 (by decide)
  refine Subscript_ ?_
  refine List_ ?_
  refine int_consts (xs := d20) ?hc _ _ ?_
  case hc => repeat constructor
  intro ds tk6 hds
  refine wpAny_newObj_type ?_ (by size_fits)
  have k6 : ∀ b o, h5.get? b = some o → (h5.push (listObj ds.toArray)).get? b = some o := fun b o e => Heap.get?_push_of_some _ e
  have i6 : (h5.push (listObj ds.toArray)).IsList h5.objs.size ds.toArray := isList_new _
  have G6 : ∀ tk, GL H0 ⟨h5.push (listObj ds.toArray), s.gens, s.drawn, tk, s.os⟩ := fun tk => GL.grow W (G5 tk) k6 rfl
  dsimp only
  generalize h5.objs.size = D2 at i6 ⊢
  generalize h5.push (listObj ds.toArray) = h6 at *
  have hn6 := hn5.keeps k6
  have hdl : ds.length = 20 := hds.length
  refine wpAny_Slice ?_
  refine evalPart_some_step ?_
  refine Call_ ?_
  refine ldb (s := ⟨h6, _, _, _, _⟩) W (G6 0).good.keep W.len1 W.len2 ?_ EO.kind l6 EO.gl EO.bi (by decide)
  refine PyProof.Rows.callWith_builtin1 ?_
  refine spliced_more ?_
  refine ldl (s := ⟨h6, _, _, _, _⟩) hn6 (if_pos rfl) ?_ EO.kind l2 (by decide)
  refine spliced_none ?_
  have hsz20 : (is.take 20).toArray.size = min 20 ns.length := by simp [hil]
  refine len_list (s := ⟨h6, _, _, _, _⟩) (i5.at fun o e => k6 _ _ e) (by rw [hsz20]; omega) ?_
  refine evalPart_none_step ?_
  refine evalPart_none_step ?_
  refine kba_turn (value' := .Name nX ⟨0, 0, 0, 0⟩) (fun _ => rfl) ?_
  refine slice_h (s := ⟨h6, _, _, _, _⟩) i6 (.int _ _) .none .none (by simp) (by rw [sizeLine_eq]; simp; omega) ?_
  intro h7 k7 z7 i7
  rw [slicePick_from'] at i7
  dsimp only at k7 z7 i7 ⊢
  have i7' : h7.IsList (h6.objs.size + 1) (ds.drop (is.take 20).toArray.size).toArray := i7
  generalize h6.objs.size + 1 = D3 at i7' ⊢
  clear i7
  have G7 : ∀ tk, GL H0 ⟨h7, s.gens, s.drawn, tk, s.os⟩ := fun tk => GL.grow W (G6 tk) k7 rfl
  have k57 : ∀ b o, h5.get? b = some o → h7.get? b = some o := fun b o e => k7 b o (k6 b o e)
  refine add_h (s := ⟨h7, _, _, _, _⟩) (i5.at fun o e => k57 _ _ e) i7' (by rw [sizeLine_eq]; simp; omega) ?_
  intro h8 k8 z8 i8
  dsimp only at k8 z8 i8 ⊢
  have k58 : ∀ b o, h5.get? b = some o → h8.get? b = some o := fun b o e => k8 b o (k57 b o e)
  have G8 : ∀ tk, GL H0 ⟨h8, s.gens, s.drawn, tk, s.os⟩ := fun tk => GL.grow W (G7 tk) k8 rfl
  generalize h7.objs.size = N at i8 ⊢
  have hnums : IntsAre (is.take 20 ++ ds.drop (is.take 20).toArray.size) (ns.take 20 ++ d20.drop (min 20 ns.length)) := by
    rw [hsz20]; exact (his.take 20).append (hds.drop _)
  have hnl : (ns.take 20 ++ d20.drop (min 20 ns.length)).length = 20 := by
    rw [List.length_append, List.length_take, List.length_drop]
    show min 20 ns.length + (20 - min 20 ns.length) = 20
    omega
  generalize is.take 20 ++ ds.drop (is.take 20).toArray.size = nv at i8 hnums
  generalize ns.take 20 ++ d20.drop (min 20 ns.length) = nn at hnums hnl
  refine stCell (s := ⟨h8, s.gens, s.drawn, _, s.os⟩) W (G8 _) hN0 c2 (cN5.keeps k58) ?_ EO.kind l5
  intro h9 cN9 S9 G9
  have hNc : N ≠ L + 1 + 1 := fun q => by
    obtain ⟨o, e, hc, n, hd⟩ := i8
    obtain ⟨o2, e2, hd2⟩ := cN5.keeps k58
    rw [q, e2] at e; cases e; rw [hd2] at hd; cases hd
  have i9 : h9.IsList N nv.toArray := i8.at fun o e => S9.extBut _ _ hNc e
  have hPPn : PP ≠ L + 1 + 1 := fun q => by
    obtain ⟨o, e, hc, n, hd⟩ := p5
    obtain ⟨o2, e2, hd2⟩ := cN5
    rw [q, e2] at e; cases e; rw [hd2] at hd; cases hd
  have p9 : h9.IsList PP ps.toArray := p5.at fun o e => S9.extBut _ _ hPPn (k58 _ _ e)
  have cP9 : h9.IsCell (L + 1) (some (.ref PP)) := by
    obtain ⟨o, e, hd⟩ := cP5
    exact ⟨o, S9.extBut _ _ hPN (k58 _ _ e), hd⟩
  have hn9 := (hn5.keeps k58).at' fun o e => S9.extBut _ o (by rw [hloc]; exact hnN) e
  have K9 : ∀ b o, s.heap.get? b = some o → h9.get? b = some o := fun b o e => S9.extBut b o (oldN e) (k58 b o (K5 b o e))
  clear S9 G8 G7 G6 i8 k58 k57 k8 k7 k6 hn6 hn5 G5 i5 i6 i7' cN5 cP5 p5 K5 z7 z8
  generalize (fun y => if y = nDrawn then some (Value.ref DD) else m0 y) = m1 at hn9
  -- texts
  refine wpAny_execs_cons ?_
  refine texts_stmt (s := ⟨h9, s.gens, s.drawn, _, s.os⟩) (cN := L + 1 + 1) (cP := L + 1) (N := N) (PP := PP) (cl1 := [(nPcs, L + 1), (nNum, L + 1 + 1)]) (cl2 := [(nPcs, L + 1)]) W (G9 _) hn9 hL0 cN9 cP9 i9 hnums hnl p9 hps hhA EO.kind (clos_out c1 c2) (fun C => out_num C EO.kind l5 l4) rfl (fun C => clos_in rfl) (fun C C' => in_pcs C' rfl (out_pcs C EO.kind l5 l4)) rfl EO.gl EO.bi EO.range l3 rfl (swaps_ok EO.kind l3 rfl (by decide +kernel)) ?_
  intro TD s10 tvs txs hT10 htv htl htok G10 hn10 k10 o10
  have ne10 : ∀ {b : Addr} {o : Obj}, s.heap.get? b = some o → b ≠ 16 → b ≠ 53 → s10.heap.get? b = some o := fun {b o} e h1 h2 => k10 b o (by rw [hloc]; exact oldL e) h1 h2 (K9 b o e)
  have cN9_16 := cell_ne_16 cN9 (G9 0).good.tab
  have cN9_53 := cell_ne_53 cN9 (G9 0).tab
  have cN10 : s10.heap.IsCell (L + 1 + 1) (some (.ref N)) := by
    obtain ⟨o, e, hd⟩ := cN9
    exact ⟨o, k10 _ _ (by rw [hloc]; exact Ne.symm hnN) cN9_16 cN9_53 e, hd⟩
  have hNL : N ≠ env.locals := list_ne_ns i9 hn9
  have i10 : s10.heap.IsList N nv.toArray := i9.at fun o e => k10 _ _ hNL (list_ne_16 i9 (G9 0).good.tab) (list_ne_53 i9 (G9 0).tab) e
  -- names
  refine wpAny_execs_cons ?_
  refine names_stmt (s := s10) W G10 hn10 hL0 (if_pos rfl) hT10 htv htl htok hhA hroomA EO.kind rfl EO.gl EO.bi l3 EO.names EO.code EO.qual (fun C => comp_gi C (by decide +kernel)) (fun C => comp_gi C (by decide +kernel)) (swaps_ok EO.kind EO.names rfl (by decide +kernel)) ?_
  intro ND s11 nvs nxs hN11 hnv hnxl hnof G11 hn11 k11 o11
  have cN11 : s11.heap.IsCell (L + 1 + 1) (some (.ref N)) := by
    obtain ⟨o, e, hd⟩ := id cN10
    exact ⟨o, k11 _ _ (by rw [hloc]; exact Ne.symm hnN) cN9_16 cN9_53 e, hd⟩
  have i11 : s11.heap.IsList N nv.toArray := i10.at fun o e => k11 _ _ hNL (list_ne_16 i10 G10.good.tab) (list_ne_53 i10 G10.tab) e
  have hTL : TD ≠ env.locals := list_ne_ns hT10 hn10
  have hT11 : s11.heap.IsList TD tvs.toArray := hT10.at fun o e => k11 _ _ hTL (list_ne_16 hT10 G10.good.tab) (list_ne_53 hT10 G10.tab) e
  have hrow : NmRow nxs := fun y hy => by
    obtain ⟨i, hi, rfl⟩ := List.getElem_of_mem hy
    have := hnof i nxs[i] (txs[i]'(by omega)) (List.getElem?_eq_getElem hi) (List.getElem?_eq_getElem (by omega))
    exact ⟨this.nm, this.al, this.len⟩
  -- if names != [...]
  refine wpAny_execs_cons ?_
  refine wpAny_If ?_
  refine wpAny_isTrue_Compare1 ?_
  refine ldl hn11 (if_pos rfl) ?_ EO.kind EO.names (by decide)
  refine clean_comp W G11 hn11 ((if_neg (by decide)).trans (if_pos rfl)) hT11 htv htl htok hhA hroomA EO.kind rfl EO.gl l3 (fun C => comp_gi C (by decide +kernel)) ?_
  intro CD s12 cvs cxs hC12 hcv hcl hcof G12 k12 z12 o12
  have hsame : cxs = nxs := by
    apply List.ext_getElem (by omega)
    intro i h1 h2
    have a1 := hcof i cxs[i] (txs[i]'(by omega)) (List.getElem?_eq_getElem h1) (List.getElem?_eq_getElem (by omega))
    have a2 := hnof i nxs[i] (txs[i]'(by omega)) (List.getElem?_eq_getElem h2) (List.getElem?_eq_getElem (by omega))
    exact tl_inj (a1.trans a2.cl.symm)
  subst hsame
  have hN16 := list_ne_16 hN11 G11.good.tab
  have hN53 := list_ne_53 hN11 G11.tab
  have hN12 := hN11.at fun o e => k12 _ o hN16 hN53 e
  refine ne_h hN12 hC12 hnv hcv huA ?_
  refine wpAny_truthy_bool ?_
  rw [if_neg Bool.false_ne_true]
  refine wpAny_execs_nil ?_
  have hLe16 : env.locals ≠ 16 := ns_ne_16 hn11 G11.good.tab
  have hLe53 : env.locals ≠ 53 := ns_ne_53 hn11 G11.tab
  have hn12 := hn11.at' fun o e => k12 _ o hLe16 hLe53 e
  have cN12 : s12.heap.IsCell (L + 1 + 1) (some (.ref N)) := by
    obtain ⟨o, e, hd⟩ := id cN11
    exact ⟨o, k12 _ _ cN9_16 cN9_53 e, hd⟩
  have i12 := i11.at fun o e => k12 _ o (list_ne_16 i11 G11.good.tab) (list_ne_53 i11 G11.tab) e
  have ne12 : ∀ {b : Addr} {o : Obj}, s.heap.get? b = some o → b ≠ 16 → b ≠ 53 → s12.heap.get? b = some o := fun {b o} e h1 h2 => k12 b o h1 h2 (k11 b o (by rw [hloc]; exact oldL e) h1 h2 (ne10 e h1 h2))
  -- the loops
  refine wpAny_execs_cons ?_
  refine outer_for (D := ND) (vs := nvs) W EO ?hB G12 hn12 hL0 (if_pos rfl) hN12 hhA ?_
  case hB =>
    intro s' m' a b ta tb E' Q' G' hn' hmn hms hme hD' hab hb4 hq
    exact body_stmt W EO G' hn' hL0 hmn hms hme hD' hnv hnxl hrow hab hb4 hhA hroomA huA hq
  intro s13 m13 hn13 hm13 G13 k13 o13
  have hN13 : s13.heap.IsList ND nvs.toArray := hN12.at fun o e => k13 _ _ (list_ne_ns hN12 hn12) hN16 hN53 e
  have cN13 : s13.heap.IsCell (L + 1 + 1) (some (.ref N)) := by
    obtain ⟨o, e, hd⟩ := id cN12
    exact ⟨o, k13 _ _ (by rw [hloc]; exact Ne.symm hnN) cN9_16 cN9_53 e, hd⟩
  have i13 := i12.at fun o e => k13 _ o hNL (list_ne_16 i12 G12.good.tab) (list_ne_53 i12 G12.tab) e
  -- the last line
  refine wpAny_execs_cons ?_
  refine wpAny_Return_some ?_
  refine last_expr W EO G13 hn13 ((hm13 _ (by decide)).trans (if_pos rfl)) hN13 hnv hnxl hrow cN13 i13 hnums hnl hhA hroomA huA l7 l5 c2 ?_
  intro s14 G14 k14 o14
  exact hQ s14 G14 (fun b o h1 h2 e => k14 b o h1 h2 (k13 b o (by rw [hloc]; exact oldL e) h1 h2 (ne12 e h1 h2))) (o14.trans (o13.trans (o12.trans (o11.trans o10))))
end
end Mine
end
section
/-! part P29 -/
open PySem PySem.W PyProof.Rows PySem.Spec PySem.SeqAt
set_option maxRecDepth 100000
namespace Mine
theorem kfill29 : (PySem.Challenge.rw_mr0080_01 = PySem.Challenge.rw_mr0080_01) ∧ (hd.heap_39 = hd.heap_39) := by
  k_fill; exact ⟨rfl, rfl⟩
theorem plat_rec : ((recsOf hd.view_39).find? (fun e => e.name == Str.ofString "_platform")).isSome = true := by kernel_rfl
abbrev tabs2 : List (Addr × Addr) := [(20, 16), (55, 53)]
end Mine
set_option maxHeartbeats 8000000
namespace Mine
theorem holds0 : PySem.Challenge.rw_mr0080_01.Holds := by
  refine hd ?_
  k_fill
  intro w s₀ s₁ mg mb G Y fa o pm cd doc dV kV ho hd hcd hD hmg hg args vals as hpre hlay hrd hwl hlo
  have KX := km_in_of Y
  have hT8 := km_tabs_of Y
  refine Ground.open G ?_
  intro T B D TE TW
  have hfa : mg (Str.ofString "law") = some (.ref 56) := mg_of KX T.g (by k_is)
  have efa : some (Value.ref fa) = some (.ref 56) := hmg.symm.trans hfa
  cases efa
  clear hmg hd ho hcd hD Y B D TE TW G
  wrow_args hpre hlay hrd hwl hlo
  rename_i ns hs hlay0 hL1 hr1 hl2 a1 a2 l is a3 hL ra w1 r0 hI hr hc1 hc2
  obtain ⟨d, hdr⟩ := Option.isSome_iff_exists.mp plat_rec
  have t16 := tab_of T KX hdr (c := 20) (P := 16) (by kernel_rfl)
  have t53 : CodeHd s₁.heap 55 53 ∧ s₁.heap.get? 53 = some (tabObj #[]) := ⟨codeHd_of_K KX (by kernel_rfl), hT8 53 (.head _)⟩
  have hT : TabsAt tabs2 s₁.heap := fun q hq => by
    rcases List.mem_cons.mp hq with rfl | hq
    · exact t16
    · rw [List.mem_singleton.mp hq]; exact t53
  obtain ⟨bm, ob, hbm⟩ := bmod_of_top (ghost_top hT T)
  have W : Wd w mg mb bm ob (ghostOf s₁.heap tabs2) := ⟨ghost_K hT KX (by kernel_rfl), ghost_ns hT T.g, ghost_ns hT T.b, (ghost_top hT T).nolimit, hbm, T.builtins, hideAll_none _ (.head _), hideAll_none _ (.tail _ (.head _))⟩
  have G0 : GL (ghostOf s₁.heap tabs2) s₁ := ⟨⟨fun b o e => of_hideAll _ e, ⟨#[], t16.1, t16.2, trivial⟩, .of_eq hg⟩, ⟨#[], t53.1, t53.2, trivial, fun pos cv e => by cases e⟩⟩
  show wpAny (model PySem.Challenge.rw_mr0080_01.row.prog w) callerA (call (.ref 56) [.ref l]) _ _ s₁
  refine law_spec W G0 hL hI (by omega) rfl (by decide) (by decide) ?_
  intro s' G' k' o'
  refine ⟨.inl ⟨.bool true, .bool true, [], rfl, fun _ => rfl, .bool true, ?_, fun _ => ⟨List.nodup_nil, fun _ h => nomatch h⟩⟩, ⟨fun b o e => ?_, fun b o e => ?_⟩, o', G'.good.bare⟩
  · exact postW_of (X := (true == true)) (by first | rfl | decide | simp [WShape.has] | (unfold WShape.has; rfl)) (w_eq_bool (w_res rfl) w_lit) rfl
  · by_cases h16 : b = 16
    · subst h16
      obtain ⟨ps, _, hP, _⟩ := G'.good.tab
      rw [t16.2] at e; cases e
      exact .inr (.inl ⟨(t16.1.tab t16.2).isCodeTable, rfl, #[], ps, rfl, by rw [Array.empty_append]; exact hP⟩)
    · by_cases h53 : b = 53
      · subst h53
        obtain ⟨ps, _, hP, _⟩ := G'.tab
        rw [t53.2] at e; cases e
        exact .inr (.inl ⟨(t53.1.tab t53.2).isCodeTable, rfl, #[], ps, rfl, by rw [Array.empty_append]; exact hP⟩)
      · exact .inl (k' b o h16 h53 e)
  · by_cases h16 : b = 16
    · subst h16
      obtain ⟨ps, _, hP, _⟩ := G'.good.tab
      exact ⟨_, hP⟩
    · by_cases h53 : b = 53
      · subst h53
        obtain ⟨ps, _, hP, _⟩ := G'.tab
        exact ⟨_, hP⟩
      · exact ⟨o, k' b o h16 h53 e⟩
end Mine
end
set_option maxRecDepth 100000 in
set_option maxHeartbeats 8000000 in
theorem PySem.Challenge.cw_mr0080_01_holds : PySem.Challenge.rw_mr0080_01.Holds := by
  exact Mine.holds0
