import PyProof.Rows.All
import Wide.All
import OpenK.AllK
import Wide.FinOn
import Lean
import PySem.Challenge.RW_ta0011_01
open PySem PySem.W PyProof.Rows
set_option Elab.async false
set_option rowWalk.seconds 0
namespace Mine
set_option maxRecDepth 100000 in
set_option maxHeartbeats 60000000 in
open_top hd for PySem.Challenge.rw_ta0011_01
end Mine
namespace Mine

/-! lists of signs -/
def repl (c : Nat) (z l : List Nat) : List Nat := l.flatMap fun d => if d = c then z else [d]
theorem repl_append (c : Nat) (z a b : List Nat) : repl c z (a ++ b) = repl c z a ++ repl c z b := by simp [repl]
theorem repl_free {c : Nat} {z : List Nat} : ∀ {l : List Nat}, c ∉ l → repl c z l = l
  | [], _ => rfl
  | d :: r, h => by
    have h1 : ¬ d = c := fun e => h (e ▸ List.mem_cons_self ..)
    have ih : repl c z r = r := repl_free fun m => h (List.mem_cons_of_mem _ m)
    show (if d = c then z else [d]) ++ repl c z r = d :: r
    rw [if_neg h1, ih]; rfl
theorem repl_hit (c : Nat) (z r : List Nat) : repl c z (c :: r) = z ++ repl c z r := by
  show (if c = c then z else [c]) ++ repl c z r = _
  rw [if_pos rfl]
theorem repl_miss {c d : Nat} (z r : List Nat) (h : d ≠ c) : repl c z (d :: r) = d :: repl c z r := by
  show (if d = c then z else [d]) ++ repl c z r = _
  rw [if_neg h]; rfl

theorem repl_join (c : Nat) (z : Str) : ∀ parts : List Str, (∀ p ∈ parts, c ∉ p.cps.toList) → repl c z.cps.toList (Str.join ⟨#[c]⟩ parts).cps.toList = (Str.join z parts).cps.toList
  | [], _ => rfl
  | [p], h => repl_free (h p (List.mem_singleton.mpr rfl))
  | p :: q :: r, h => by
    have ih := repl_join c z (q :: r) fun a ha => h a (List.mem_cons_of_mem _ ha)
    show repl c z.cps.toList (p ++ ⟨#[c]⟩ ++ Str.join ⟨#[c]⟩ (q :: r)).cps.toList = (p ++ z ++ Str.join z (q :: r)).cps.toList
    simp only [Str.cps_append, Array.toList_append]
    rw [repl_append, repl_append, ih, repl_free (h p (List.mem_cons_self ..))]
    congr 2
    show (if c = c then z.cps.toList else [c]) ++ [] = _
    rw [if_pos rfl, List.append_nil]
theorem replace_repl (x z : Str) (c : Nat) : (Txt.replace x ⟨#[c]⟩ z).cps.toList = repl c z.cps.toList x.cps.toList := by
  rw [StrLaws.replace_one, ← repl_join c z _ (StrLaws.split_free x c), StrLaws.join_split]
theorem mk_list {x : Str} {l : List Nat} (h : x.cps.toList = l) : x = ⟨l.toArray⟩ := StrLaws.mk_of_toList h
theorem replace_eq (x z : Str) (c : Nat) : Txt.replace x ⟨#[c]⟩ z = ⟨(repl c z.cps.toList x.cps.toList).toArray⟩ := mk_list (replace_repl x z c)

theorem count_join (c : Nat) : ∀ parts : List Str, (∀ p ∈ parts, c ∉ p.cps.toList) → (Str.join ⟨#[c]⟩ parts).cps.toList.count c = parts.length - 1
  | [], _ => rfl
  | [p], h => List.count_eq_zero.mpr (h p (List.mem_singleton.mpr rfl))
  | p :: q :: r, h => by
    have ih := count_join c (q :: r) fun a ha => h a (List.mem_cons_of_mem _ ha)
    show (p ++ ⟨#[c]⟩ ++ Str.join ⟨#[c]⟩ (q :: r)).cps.toList.count c = _
    simp only [Str.cps_append, Array.toList_append, List.count_append]
    rw [ih, List.count_eq_zero.mpr (h p (List.mem_cons_self ..))]
    simp
    omega
theorem count_one (x : Str) (c : Nat) : Txt.count x ⟨#[c]⟩ = ((x.cps.toList.count c : Nat) : Int) := by
  have hs := StrLaws.split_free x c
  have hj := count_join c _ hs
  rw [StrLaws.join_split] at hj
  unfold Txt.count
  rw [hj]
  congr 1
  by_cases he : (Builtin.Str.occurrences x ⟨#[c]⟩ 0 x.length (x.length + 1)).isEmpty = true
  · have h0 : Txt.split x ⟨#[c]⟩ = [x] := by
      unfold Txt.split
      split
      · rfl
      · rfl
    rw [h0, List.isEmpty_iff.mp he]; rfl
  · have h0 : Txt.split x ⟨#[c]⟩ = Builtin.Str.partsBetween x (Builtin.Str.occurrences x ⟨#[c]⟩ 0 x.length (x.length + 1)) (⟨#[c]⟩ : Str).length := by
      unfold Txt.split
      split
      · rename_i hc
        exfalso
        have hx : c ∉ x.cps.toList := by
          have := hs x (by unfold Txt.split; rw [if_pos hc]; exact List.mem_singleton.mpr rfl)
          exact this
        obtain ⟨f, hf⟩ := StrLaws.occ_chain x ⟨#[c]⟩ (x.length + 1)
        cases ho : Builtin.Str.occurrences x ⟨#[c]⟩ 0 x.length (x.length + 1) with
        | nil => rw [ho] at he; exact absurd rfl he
        | cons i r =>
          rw [ho] at hf
          exact hx (List.mem_of_getElem? ((StrLaws.subAt_one x c i).mp hf.2.1))
      · rfl
    rw [h0]
    unfold Builtin.Str.partsBetween
    simp

/-! slices, items -/
theorem len_list (x : Str) : x.cps.toList.length = x.length := by rw [Array.length_toList]; rfl
theorem slice_from (x : Str) (i : Nat) (h : i ≤ x.length) : Txt.slice x (some (i : Int)) none = ⟨(x.cps.toList.drop i).toArray⟩ := by
  show StrLaws.sliceText x (some (i : Int)) none = _
  rw [StrLaws.sliceText_from ⟨Int.natCast_nonneg i, by rw [len_list]; exact_mod_cast h⟩]
  apply congrArg (fun l : List Nat => (⟨l.toArray⟩ : Str))
  rw [Int.toNat_natCast]
  apply List.take_of_length_le
  rw [List.length_drop, len_list]
  omega
theorem slice_to (x : Str) (j : Nat) (h : j ≤ x.length) : Txt.slice x none (some (j : Int)) = ⟨(x.cps.toList.take j).toArray⟩ := by
  show StrLaws.sliceText x none (some (j : Int)) = _
  rw [StrLaws.sliceText_to ⟨Int.natCast_nonneg j, by rw [len_list]; exact_mod_cast h⟩]
  simp
theorem slice_neg (x : Str) (j : Nat) (h0 : 0 < j) (h : j ≤ x.length) : Txt.slice x none (some (-(j : Int))) = ⟨(x.cps.toList.take (x.length - j)).toArray⟩ := by
  show StrLaws.sliceText x none (some (-(j : Int))) = _
  rw [StrLaws.sliceText_neg_hi x none (by omega) (by omega)]
  have e : (-(j : Int) + x.length) = ((x.length - j : Nat) : Int) := by omega
  rw [e]
  exact slice_to x (x.length - j) (by omega)
theorem slice_all (x : Str) : Txt.slice x none none = x := by
  have h := slice_from x 0 (Nat.zero_le _)
  show StrLaws.sliceText x none none = x
  have e : StrLaws.sliceText x none none = StrLaws.sliceText x (some ((0 : Nat) : Int)) none := by
    unfold StrLaws.sliceText
    rw [StrLaws.sliceIdx_none_lo]; rfl
  rw [e]
  exact h.trans (mk_list rfl).symm
theorem slice_mid (x : Str) (i j : Nat) (h : i ≤ j) (hj : j ≤ x.length) : Txt.slice x (some (i : Int)) (some (j : Int)) = ⟨((x.cps.toList.drop i).take (j - i)).toArray⟩ := by
  show StrLaws.sliceText x (some (i : Int)) (some (j : Int)) = _
  rw [StrLaws.sliceText_plain ⟨Int.natCast_nonneg i, by exact_mod_cast h, by rw [len_list]; exact_mod_cast hj⟩]
  have e : (((j : Int) - (i : Int))).toNat = j - i := by omega
  rw [e, Int.toNat_natCast]
theorem item_nat (x : Str) (i : Nat) (h : i < x.length) : Txt.item x (i : Int) = ⟨#[x.cps.toList.getD i 0]⟩ := by
  unfold Txt.item Txt.charAt
  have hs : x.cps[i]? = some (x.cps.toList.getD i 0) := by
    have h' : i < x.cps.size := h
    rw [List.getD_eq_getElem?_getD, Array.getElem?_toList, Array.getElem?_eq_getElem h']; rfl
  rw [StrLaws.at_nonneg (n := x.cps.toList.getD i 0) (Int.natCast_nonneg i) (by rw [Int.toNat_natCast]; exact hs)]
  rfl
theorem item_neg (x : Str) (j : Nat) (h0 : 0 < j) (h : j ≤ x.length) : Txt.item x (-(j : Int)) = ⟨#[x.cps.toList.getD (x.length - j) 0]⟩ := by
  unfold Txt.item Txt.charAt
  have hs : x.cps[x.length - j]? = some (x.cps.toList.getD (x.length - j) 0) := by
    have h' : x.length - j < x.cps.size := by show x.length - j < x.length; omega
    rw [List.getD_eq_getElem?_getD, Array.getElem?_toList, Array.getElem?_eq_getElem h']; rfl
  rw [StrLaws.at_neg (n := x.cps.toList.getD (x.length - j) 0) (by omega) (by omega) (by rw [show (-(j : Int) + x.length).toNat = x.length - j by omega]; exact hs)]
  rfl
end Mine
namespace Mine

/-! the distance, as the text reckons it -/
def stripPre : List Nat → List Nat → List Nat × List Nat
  | x :: xs, y :: ys => if x = y then stripPre xs ys else (x :: xs, y :: ys)
  | xs, ys => (xs, ys)
def stripPost (a b : List Nat) : List Nat × List Nat := ((stripPre a.reverse b.reverse).1.reverse, (stripPre a.reverse b.reverse).2.reverse)
def subC (x y : Nat) : Int := if x = y then 0 else 2
def minF (a b : Int) : Int := if b < a then b else a
def innerRun (bc : Nat) : List Nat → List Int → Int → Int → Int → List Int → Int × Int × List Int
  | c :: cs, o :: os, d, r, mn, done =>
    innerRun bc cs os o (minF (minF r o + 2) (d + subC bc c)) (if minF (minF r o + 2) (d + subC bc c) < mn then minF (minF r o + 2) (d + subC bc c) else mn) (done ++ [minF (minF r o + 2) (d + subC bc c)])
  | _, rest, _, r, mn, done => (r, mn, done ++ rest)
def outerRun (a : List Nat) (mc : Int) : List Nat → Int → List Int → Int → Int
  | [], _, _, r => r
  | bc :: bs, k, row, _ =>
    if (innerRun bc a row (k * 2) (k * 2) 9223372036854775807 []).2.1 > mc then mc + 1
    else outerRun a mc bs (k + 1) (innerRun bc a row (k * 2) (k * 2) 9223372036854775807 []).2.2 (innerRun bc a row (k * 2) (k * 2) 9223372036854775807 []).1
def rowOf (n : Nat) : List Int := (List.range n).map fun i : Nat => 2 + 2 * (i : Int)
def coreF (a b : List Nat) (mc : Int) : Int :=
  if a = [] ∨ b = [] then 2 * ((a.length : Int) + b.length)
  else if (a.length : Int) > 40 ∨ (b.length : Int) > 40 then mc + 1
  else
    let p := if b.length < a.length then (b, a) else (a, b)
    if ((p.2.length : Int) - p.1.length) * 2 > mc then mc + 1
    else outerRun p.1 mc p.2 0 (rowOf p.1.length) 0
def stripF (a b : List Nat) : List Nat × List Nat := stripPost (stripPre a b).1 (stripPre a b).2
def levF (a b : List Nat) (mc : Int) : Int :=
  if a = b then 0 else coreF (stripF a b).1 (stripF a b).2 mc

/-! the marks of a name -/
def run (i j : Nat) : List Nat := List.replicate (2 ^ i - 1) 92 ++ List.replicate (2 ^ j) 34
def runs (i j : Nat) : Nat → List Nat
  | 0 => []
  | n + 1 => run i j ++ runs i j n
def dueF (n : Nat) (b q : Int) : Int := 2 * n * max (max (b.natAbs : Int) q.natAbs) ((b + q).natAbs : Int)
def bF (i : Nat) : Int := (2 : Int) ^ i - 1
def qF (j : Nat) : Int := (2 : Int) ^ j

theorem all_due : ∀ n, n < 3 → ∀ i, i < 3 → ∀ j, j < 3 → ∀ i', i' < 3 → ∀ j', j' < 3 → ∀ e : Nat, e < 2 →
    levF (runs i j (n + 1)) (runs i' j' (n + 1)) (dueF (n + 1) (bF i - bF i') (qF j - qF j') - (e : Int)) = dueF (n + 1) (bF i - bF i') (qF j - qF j') := by
  decide +kernel

theorem strip_left (a b : List Nat) : ∀ A : List Nat, stripPre (A ++ a) (A ++ b) = stripPre a b
  | [] => rfl
  | c :: r => by
    show (if c = c then stripPre (r ++ a) (r ++ b) else _) = _
    rw [if_pos rfl, strip_left a b r]
theorem strip_right {P : Nat → Prop} (B : List Nat) (hB : ∀ c ∈ B, ¬ P c) : ∀ X Y : List Nat, (∀ c ∈ X, P c) → (∀ c ∈ Y, P c) → X ≠ Y → stripPre (X ++ B) (Y ++ B) = ((stripPre X Y).1 ++ B, (stripPre X Y).2 ++ B)
  | [], [], _, _, h => absurd rfl h
  | [], y :: ys, _, hY, _ => by
    cases B with
    | nil => rfl
    | cons c r =>
      have hc : ¬ c = y := fun e => hB c (List.mem_cons_self ..) (e ▸ hY y (List.mem_cons_self ..))
      show (if c = y then _ else _) = _
      rw [if_neg hc]; rfl
  | x :: xs, [], hX, _, _ => by
    cases B with
    | nil => simp [stripPre]
    | cons c r =>
      have hc : ¬ x = c := fun e => hB c (List.mem_cons_self ..) (e ▸ hX x (List.mem_cons_self ..))
      show (if x = c then _ else _) = _
      rw [if_neg hc]; rfl
  | x :: xs, y :: ys, hX, hY, h => by
    by_cases e : x = y
    · subst e
      show (if x = x then stripPre (xs ++ B) (ys ++ B) else _) = ((if x = x then stripPre xs ys else _).1 ++ B, (if x = x then stripPre xs ys else _).2 ++ B)
      rw [if_pos rfl, if_pos rfl]
      exact strip_right B hB xs ys (fun c hc => hX c (List.mem_cons_of_mem _ hc)) (fun c hc => hY c (List.mem_cons_of_mem _ hc)) fun e => h (by rw [e])
    · show (if x = y then _ else (x :: (xs ++ B), y :: (ys ++ B))) = ((if x = y then _ else (x :: xs, y :: ys)).1 ++ B, (if x = y then _ else (x :: xs, y :: ys)).2 ++ B)
      rw [if_neg e, if_neg e]; rfl
theorem strip_mem : ∀ X Y : List Nat, (∀ c ∈ (stripPre X Y).1, c ∈ X) ∧ ∀ c ∈ (stripPre X Y).2, c ∈ Y
  | [], _ => ⟨fun _ h => h, fun _ h => h⟩
  | x :: xs, [] => ⟨fun _ h => h, fun _ h => h⟩
  | x :: xs, y :: ys => by
    by_cases e : x = y
    · have ih := strip_mem xs ys
      show (∀ c ∈ (if x = y then stripPre xs ys else _).1, _) ∧ ∀ c ∈ (if x = y then stripPre xs ys else _).2, _
      rw [if_pos e]
      exact ⟨fun c h => List.mem_cons_of_mem _ (ih.1 c h), fun c h => List.mem_cons_of_mem _ (ih.2 c h)⟩
    · show (∀ c ∈ (if x = y then _ else (x :: xs, y :: ys)).1, _) ∧ ∀ c ∈ (if x = y then _ else (x :: xs, y :: ys)).2, _
      rw [if_neg e]
      exact ⟨fun _ h => h, fun _ h => h⟩
def Mk (c : Nat) : Prop := c = 34 ∨ c = 92
theorem stripF_mem {X Y : List Nat} (hX : ∀ c ∈ X, Mk c) (hY : ∀ c ∈ Y, Mk c) : (∀ c ∈ (stripF X Y).1, Mk c) ∧ ∀ c ∈ (stripF X Y).2, Mk c := by
  have h1 := strip_mem X Y
  have h2 := strip_mem (stripPre X Y).1.reverse (stripPre X Y).2.reverse
  refine ⟨fun c h => hX c (h1.1 c (List.mem_reverse.mp (h2.1 c (List.mem_reverse.mp h)))), fun c h => hY c (h1.2 c (List.mem_reverse.mp (h2.2 c (List.mem_reverse.mp h))))⟩
theorem stripF_in {A B X Y : List Nat} (hB : ∀ c ∈ B, ¬ Mk c) (hX : ∀ c ∈ X, Mk c) (hY : ∀ c ∈ Y, Mk c) (h : X ≠ Y) : stripF (A ++ X ++ B) (A ++ Y ++ B) = stripF X Y := by
  unfold stripF
  rw [List.append_assoc, List.append_assoc, strip_left, strip_right B hB X Y hX hY h]
  unfold stripPost
  dsimp only
  rw [List.reverse_append, List.reverse_append, strip_left]
theorem levF_in {A B X Y : List Nat} (hB : ∀ c ∈ B, ¬ Mk c) (hX : ∀ c ∈ X, Mk c) (hY : ∀ c ∈ Y, Mk c) (m : Int) : levF (A ++ X ++ B) (A ++ Y ++ B) m = levF X Y m := by
  unfold levF
  by_cases h : X = Y
  · rw [if_pos (by rw [h]), if_pos h]
  · have h' : A ++ X ++ B ≠ A ++ Y ++ B := fun e => h (List.append_cancel_left (List.append_cancel_right e))
    rw [if_neg h', if_neg h, stripF_in hB hX hY h]

theorem runs_mem (i j : Nat) : ∀ n, ∀ c ∈ runs i j n, Mk c
  | 0, _, h => nomatch h
  | n + 1, c, h => by
    rcases List.mem_append.mp h with h | h
    · rcases List.mem_append.mp h with h | h
      · exact .inr (List.eq_of_mem_replicate h)
      · exact .inl (List.eq_of_mem_replicate h)
    · exact runs_mem i j n c h
theorem runs_len (i j : Nat) : ∀ n, (runs i j n).length = n * (2 ^ i - 1 + 2 ^ j)
  | 0 => by simp [runs]
  | n + 1 => by
    show (run i j ++ runs i j n).length = _
    rw [List.length_append, runs_len i j n, Nat.succ_mul]
    have : (run i j).length = 2 ^ i - 1 + 2 ^ j := by simp [run]
    omega
theorem runs_repl {c : Nat} {z : List Nat} {i j i' j' : Nat} (h : repl c z (run i j) = run i' j') : ∀ n, repl c z (runs i j n) = runs i' j' n
  | 0 => rfl
  | n + 1 => by
    show repl c z (run i j ++ runs i j n) = run i' j' ++ runs i' j' n
    rw [repl_append, h, runs_repl h n]

theorem repl_len (c : Nat) (z : List Nat) : ∀ l : List Nat, (repl c z l).length ≤ l.length * (z.length + 1)
  | [] => by simp [repl]
  | d :: r => by
    have ih := repl_len c z r
    show ((if d = c then z else [d]) ++ repl c z r).length ≤ (r.length + 1) * (z.length + 1)
    rw [List.length_append, Nat.succ_mul]
    have : (if d = c then z else [d]).length ≤ z.length + 1 := by split <;> simp
    omega
theorem replace_len (x z : Str) (c : Nat) : (Txt.replace x ⟨#[c]⟩ z).length ≤ x.length * (z.length + 1) := by
  rw [replace_eq]
  show (repl c z.cps.toList x.cps.toList).toArray.size ≤ _
  rw [List.size_toArray]
  have h := repl_len c z.cps.toList x.cps.toList
  rw [Array.length_toList, Array.length_toList] at h
  exact h

/-- a writing of the name -/
def nmL (A B : List Nat) (n i j : Nat) : List Nat := A ++ runs i j n ++ B
def nm (A B : List Nat) (n i j : Nat) : Str := ⟨(nmL A B n i j).toArray⟩
theorem nm_list (A B : List Nat) (n i j : Nat) : (nm A B n i j).cps.toList = nmL A B n i j := rfl
structure Nam (A B : List Nat) (n : Nat) : Prop where
  left : ∀ c ∈ A, ¬ Mk c
  right : ∀ c ∈ B, ¬ Mk c
  short : A.length ≤ 1
  shortR : B.length ≤ 2
  pos : 1 ≤ n
  most : n ≤ 3
section
variable {A B : List Nat} {n : Nat}
theorem Nam.a34 (H : Nam A B n) : 34 ∉ A := fun h => H.left _ h (.inl rfl)
theorem Nam.b34 (H : Nam A B n) : 34 ∉ B := fun h => H.right _ h (.inl rfl)
theorem Nam.a92 (H : Nam A B n) : 92 ∉ A := fun h => H.left _ h (.inr rfl)
theorem Nam.b92 (H : Nam A B n) : 92 ∉ B := fun h => H.right _ h (.inr rfl)
theorem Nam.repl34 (H : Nam A B n) {z : List Nat} {i j i' j' : Nat} (h : repl 34 z (run i j) = run i' j') : repl 34 z (nmL A B n i j) = nmL A B n i' j' := by
  unfold nmL
  rw [repl_append, repl_append, repl_free H.a34, repl_free H.b34, runs_repl h]
theorem Nam.replace34 (H : Nam A B n) {z : List Nat} {i j i' j' : Nat} (h : repl 34 z (run i j) = run i' j') : Txt.replace (nm A B n i j) ⟨#[34]⟩ ⟨z.toArray⟩ = nm A B n i' j' := by
  rw [replace_eq]
  show (⟨(repl 34 z (nmL A B n i j)).toArray⟩ : Str) = _
  rw [H.repl34 h]; rfl
theorem Nam.len (_ : Nam A B n) (i j : Nat) : (nm A B n i j).length = A.length + n * (2 ^ i - 1 + 2 ^ j) + B.length := by
  show (nmL A B n i j).toArray.size = _
  simp only [nmL, List.size_toArray, List.length_append, runs_len]
theorem Nam.pos_len (H : Nam A B n) (i j : Nat) : 0 < (nm A B n i j).length := by
  rw [H.len]
  have h1 : 0 < 2 ^ j := Nat.two_pow_pos j
  have h2 : 0 < n * (2 ^ i - 1 + 2 ^ j) := Nat.mul_pos H.pos (by omega)
  omega
theorem Nam.len_le (H : Nam A B n) {i j : Nat} (hi : i < 3) (hj : j < 3) : (nm A B n i j).length ≤ 24 := by
  rw [H.len]
  have h1 : 2 ^ i - 1 + 2 ^ j ≤ 7 := (by decide : ∀ i, i < 3 → ∀ j, j < 3 → 2 ^ i - 1 + 2 ^ j ≤ 7) i hi j hj
  have h2 : n * (2 ^ i - 1 + 2 ^ j) ≤ 3 * 7 := Nat.mul_le_mul H.most h1
  have := H.short
  have := H.shortR
  omega
end
end Mine
namespace Mine
theorem gen_pos {M : Model} {A : Around} {α : Type} {t : Sem α} {Q : α → Shared → Prop} {E : Value → Shared → Prop} {h : Heap} {g : Array GenState} {d : Drawn} {X : Nat} {os : OsState} (hk : ∀ tk : Nat, 0 < tk → wpAny M A t Q E ⟨h, g, d, tk, os⟩) : wpAny M A t Q E ⟨h, g, d, X + 1, os⟩ := hk _ (Nat.succ_pos _)
theorem gen_hp {M : Model} {A : Around} {α : Type} {t : Sem α} {Q : α → Shared → Prop} {E : Value → Shared → Prop} {h : Heap} {g : Array GenState} {d : Drawn} {X : Nat} {os : OsState} (hp : 0 < X) (hk : ∀ tk : Nat, 0 < tk → wpAny M A t Q E ⟨h, g, d, tk, os⟩) : wpAny M A t Q E ⟨h, g, d, X, os⟩ := hk _ hp
open PySem.Builtin PySem.Builtin.Str in
/-- str.replace, and the count of tokens does not fall to nought -/
theorem replace_pos {prog : Program} {w : World} {A : Around} {E : Value → Shared → Prop} {s : Shared} {x y z : Str} {t u v : Tok} {Q : Value → Shared → Prop} (hs : 0 < s.toks) (hu : u ≠ 0) (hv : v ≠ 0) (huv : u ≠ v) (hyz : (y == z) = false) (hx : x.length ≤ 1000) (hz : z.length ≤ 14)
    (hq : ∀ t' k, 0 < k → Q (.str (Txt.replace x y z) t') { s with toks := k }) : wpAny (model prog w) A (call (.builtin "str.replace") [.str x t, .str y u, .str z v]) Q E s := by
  have hb : x.length + (x.length + 1) * z.length ≤ 16777216 := by
    have h1 : (x.length + 1) * z.length ≤ (x.length + 1) * 14 := Nat.mul_le_mul_left _ hz
    omega
  have hl : tooLong (x.length + (occurrences x y 0 x.length (x.length + 1)).length * z.length) = false := by
    have h1 := StrLaws.occ_length_le x y 0 x.length (x.length + 1)
    have h2 := Nat.mul_le_mul_right z.length h1
    have e : (2 : Nat) ^ 24 = 16777216 := by decide
    unfold tooLong sizeLine
    exact decide_eq_false (by omega)
  have h0 : (u == 0 || v == 0) = false := by simp [hu, hv]
  have h3 : (u == v) = false := by simp [huv]
  refine call_gives F.slot_str_replace (typeIs_str _ _ _) F.entry_str_replace (F.args_str_replace_3 _ _ _) (gives_str_replace x y z t u v fun _ => ⟨h0, h3, hyz, hl⟩) ?_
  have hq' := hq
  unfold Txt.replace at hq'
  by_cases hc : ((occurrences x y 0 x.length (x.length + 1)).isEmpty || (y.length == 0 && z.length == 0)) = true
  · simp only [if_pos hc] at hq' ⊢
    exact hq' t s.toks hs
  · simp only [if_neg hc] at hq' ⊢
    exact ⟨fits_replaced y hb, hq' _ _ (Nat.succ_pos _)⟩
theorem bsl : Str.ofString "\\" = ⟨#[92]⟩ := by decide +kernel
theorem bsl2 : Str.ofString "\\\\" = ⟨#[92, 92]⟩ := by decide +kernel
theorem quo : Str.ofString "\"" = ⟨#[34]⟩ := by decide +kernel
theorem bquo : Str.ofString "\\\"" = ⟨#[92, 34]⟩ := by decide +kernel

def fmtF (x : Str) : Str := Str.empty ++ Str.ofString "p" ++ Str.ofString "=\"" ++ Txt.replace (Txt.replace x (Str.ofString "\\") (Str.ofString "\\\\")) (Str.ofString "\"") (Str.ofString "\\\"") ++ Str.ofString "\""
local macro_rules | `(tactic| cell_enter) => `(tactic| (refine' code_def ?k1 ?k2 ?k3 ?k4 ?k5 ?kA ?kF ?kK ?k6 ?k7 ?k8 ?k9 ?kB ?_ ?c2 ?c3 ?c4 ?c5; (case kA => exact rfl); (case kF => exact rfl); (case kK => assumption); (case k1 => k_asm); (case k2 => k_asm); (case k3 => k_asm); (case k4 => k_asm); (case k5 => k_asm); (case k6 => k_is); (case k7 => k_is); (case k8 => ktr_room); (case k9 => exact binds_K (by k_in) rfl (by k_is) rfl rfl rfl); (case c5 => decide); (case kB => exact locs rfl); (case c2 => exact rfl); (case c3 => exact rfl); (case c4 => exact rfl); k_whole; intro g' L' h' FG' F' N' B' X' T'; (try dsimp only); (try k_lift B'); (try k_fold)))
local macro_rules | `(tactic| walk_at "execs cons") => `(tactic| (k_here; refine gen_pos ?_; intro tk' htk'))
local macro_rules | `(tactic| walk_at "execs nil") => `(tactic| (k_here; refine gen_pos ?_; intro tk' htk'))

local macro_rules | `(tactic| walk_at "call builtin:str.replace") => `(tactic| (k_here; (with_reducible show wpAny _ _ (call (Value.builtin "str.replace") [Value.str _ _, Value.str _ _, Value.str _ _]) _ _ _); k_dflt (refine' replace_pos ?rp ?ra ?rb ?rc ?rd ?re ?rf ?_; (case rp => ((show @LT.lt Nat _ _ _); (try dsimp only); omega)); (case ra => ((show @Ne Nat _ _); omega)); (case rb => ((show @Ne Nat _ _); omega)); (case rc => ((show @Ne Nat _ _); omega)); (case rd => decide +kernel); (case re => omega); (case rf => decide +kernel)); intro t8 k8 hk8))

set_option maxRecDepth 100000 in
set_option maxHeartbeats 60000000 in
theorem fmt_use {w : World} {p : Program} {loose : List Str} {mean : ExcName → Option Value} {mg mb : Str → Option Value} {dp un : Nat} {gd : Option (List Code)} {cn : Str} {cs : Scope} {fa : Addr} {ccd : Value} {cl : List (Str × Addr)} {outer : List Env} {A₀ : Around} {base h₀ : Heap} {L : Addr} {m : Str → Option Value} {s : Shared} {Q E : Value → Shared → Prop} {news : List (Addr × Obj)}
    (x : Str) (tp tx : Tok) (hB : Below A₀ base outer h₀) (hF : Fr h₀ L s.heap m) (hK : (hd.heap_39 w.params).In h₀) (hN : News h₀ L s.heap news) (hT : Top p loose mean mg mb h₀) (hcs : cs.kind = .function)
    (hx0 : 0 < x.length) (hx : x.length ≤ 40) (hdp : dp + 1 < recursionLimit) (_hun : un + 8 < cLine)
    (hret : ∀ (t : Tok) (h' : Heap) (tk' : Nat), Fr h₀ L h' m → News h₀ L h' news → Q (.str (fmtF x) t) { s with heap := h', toks := tk' }) :
    wpAny (model PySem.Challenge.rw_ta0011_01.row.prog w) (ktrTop dp un gd cn cs L fa ccd cl outer) (call (.ref 44) [.str (Str.ofString "p") tp, .str x tx]) Q E s := by
  w_top off
  revert hK
  k_fill
  intro hK
  have hr1 : (Txt.replace x (Str.ofString "\\") (Str.ofString "\\\\")).length ≤ x.length * 3 := by rw [bsl]; exact replace_len x _ 92
  have hr2 : (Txt.replace (Txt.replace x (Str.ofString "\\") (Str.ofString "\\\\")) (Str.ofString "\"") (Str.ofString "\\\"")).length ≤ x.length * 3 * 3 := by
    rw [quo]
    exact Nat.le_trans (replace_len _ _ 34) (Nat.mul_le_mul_right _ hr1)
  refine wpAny_call ?_
  k_dflt cell_enter
  refine gen_hp (by show 0 < s.toks + 3; omega) (fun tk htk => ?_)
  repeat' (first | (k_unfold; (try dsimp only)) | walk1 | (dsimp only; walk1))
  exact cb_retS hret rfl (by k_asm) (by k_asm)
end Mine
namespace Mine
def parseL : List Nat → List Nat
  | [] => []
  | c :: r => if c = 34 then (match r with | d :: r' => if d = 34 then 34 :: parseL r' else [] | [] => []) else c :: parseL r
theorem parseL_plain {c : Nat} (r : List Nat) (h : ¬ c = 34) : parseL (c :: r) = c :: parseL r := by
  rw [parseL.eq_def]
  show (if c = 34 then _ else c :: parseL r) = _
  rw [if_neg h]
theorem parseL_two (r : List Nat) : parseL (34 :: 34 :: r) = 34 :: parseL r := by
  rw [parseL, if_pos rfl]
  show (if 34 = 34 then 34 :: parseL r else _) = _
  rw [if_pos rfl]
theorem parseL_end {d : Nat} (r : List Nat) (h : ¬ d = 34) : parseL (34 :: d :: r) = [] := by
  rw [parseL, if_pos rfl]
  show (if d = 34 then _ else []) = _
  rw [if_neg h]
theorem parseL_one : parseL [34] = [] := by rw [parseL, if_pos rfl]
theorem parse_dbl (rest : List Nat) : ∀ t : List Nat, parseL (repl 34 [34, 34] t ++ 34 :: 32 :: rest) = t
  | [] => by
    show parseL (34 :: 32 :: rest) = []
    exact parseL_end rest (by decide)
  | c :: r => by
    have ih := parse_dbl rest r
    by_cases h : c = 34
    · subst h
      rw [repl_hit]
      show parseL (34 :: 34 :: (repl 34 [34, 34] r ++ 34 :: 32 :: rest)) = _
      rw [parseL_two, ih]
    · rw [repl_miss _ _ h]
      show parseL (c :: (repl 34 [34, 34] r ++ 34 :: 32 :: rest)) = _
      rw [parseL_plain _ h, ih]
structure ParseP (x : Str) (i : Int) (d : Str) : Prop where
  low : 5 ≤ i
  high : i ≤ x.length
  short : (d.length : Int) ≤ i
  on : d.cps.toList ++ parseL (x.cps.toList.drop i.toNat) = parseL (x.cps.toList.drop 5)
theorem ParseP.start {x d : Str} (h : 5 ≤ x.length) (hd : d = Str.ofString "") : ParseP x 5 d := by
  subst hd
  refine ⟨Int.le_refl _, by omega, by decide +kernel, ?_⟩
  rw [show (Str.ofString "").cps.toList = [] by decide +kernel]
  rfl
theorem drop_head {x : Str} {i : Int} (h0 : 0 ≤ i) (h : i < x.length) : x.cps.toList.drop i.toNat = x.cps.toList.getD i.toNat 0 :: x.cps.toList.drop (i + 1).toNat := by
  rw [show (i + 1).toNat = i.toNat + 1 by omega]
  exact drop_getD' (by rw [len_list]; omega)
where
  drop_getD' {l : List Nat} {k : Nat} (h : k < l.length) : l.drop k = l.getD k 0 :: l.drop (k + 1) := by
    rw [List.drop_eq_getElem_cons h, List.getD_eq_getElem?_getD, List.getElem?_eq_getElem h]; rfl
theorem item_int {x : Str} {i : Int} (h0 : 0 ≤ i) (h : i < x.length) : Txt.item x i = ⟨#[x.cps.toList.getD i.toNat 0]⟩ := by
  have := item_nat x i.toNat (by omega)
  rwa [show ((i.toNat : Nat) : Int) = i by omega] at this
theorem one_eq {c d : Nat} (h : (⟨#[c]⟩ : Str) = ⟨#[d]⟩) : c = d := by injection h with h; simpa using h
/-- an unmarked sign -/
theorem ParseP.plain {x d : Str} {i : Int} (h : ParseP x i d) (hi : i < x.length) (hc : (Txt.item x i == Str.ofString "\"") = false) : ParseP x (i + 1) (d ++ Txt.item x i) := by
  have h0 := h.low
  rw [item_int (by omega) hi] at hc ⊢
  refine ⟨by omega, by omega, ?_, ?_⟩
  · have := h.short
    rw [Str.length_append]
    show ((d.length + 1 : Nat) : Int) ≤ i + 1
    omega
  · have ho := h.on
    rw [drop_head (by omega) hi] at ho
    have hne : ¬ x.cps.toList.getD i.toNat 0 = 34 := fun e => by
      rw [e, quo] at hc
      simp at hc
    rw [parseL_plain _ hne] at ho
    rw [← ho, Str.cps_append, Array.toList_append, List.append_assoc]
    rfl
/-- a doubled mark -/
theorem ParseP.double {x d : Str} {i : Int} (h : ParseP x i d) (hi : i + 1 < x.length) (hc : (Txt.item x i == Str.ofString "\"") = true) (hc'' : (Txt.item x (i + 1) != Str.ofString "\"") = false) : ParseP x (i + 1 + 1) (d ++ Txt.item x i) := by
  have h0 := h.low
  have hc' : (Txt.item x (i + 1) == Str.ofString "\"") = true := by simpa [bne] using hc''
  rw [item_int (by omega) (by omega)] at hc ⊢
  rw [item_int (by omega) hi] at hc'
  have e1 : x.cps.toList.getD i.toNat 0 = 34 := one_eq ((eq_of_beq hc).trans quo)
  have e2 : x.cps.toList.getD (i + 1).toNat 0 = 34 := one_eq ((eq_of_beq hc').trans quo)
  refine ⟨by omega, by omega, ?_, ?_⟩
  · have := h.short
    rw [Str.length_append]
    show ((d.length + 1 : Nat) : Int) ≤ i + 1 + 1
    omega
  · have ho := h.on
    rw [drop_head (by omega) (by omega), drop_head (by omega) hi, e1, e2] at ho
    rw [parseL_two] at ho
    rw [← ho, e1, Str.cps_append, Array.toList_append, List.append_assoc]
    rfl
theorem ParseP.over {x d : Str} {i : Int} (h : ParseP x i d) (hi : ¬ i < x.length) : d = ⟨(parseL (x.cps.toList.drop 5)).toArray⟩ := by
  have ho := h.on
  rw [List.drop_of_length_le (by rw [len_list]; have := h.low; omega)] at ho
  refine mk_list ?_
  rw [← ho]
  show _ = d.cps.toList ++ []
  rw [List.append_nil]
theorem ParseP.last {x d : Str} {i : Int} (h : ParseP x i d) (hi : i < x.length) (hc : (Txt.item x i == Str.ofString "\"") = true) (hn : ¬ i + 1 < x.length) : d = ⟨(parseL (x.cps.toList.drop 5)).toArray⟩ := by
  have h0 := h.low
  rw [item_int (by omega) hi] at hc
  have e1 : x.cps.toList.getD i.toNat 0 = 34 := one_eq ((eq_of_beq hc).trans quo)
  have ho := h.on
  rw [drop_head (by omega) hi, e1, List.drop_of_length_le (by rw [len_list]; omega)] at ho
  refine mk_list ?_
  rw [← ho]
  show _ = d.cps.toList ++ []
  rw [List.append_nil]
theorem ParseP.closed {x d : Str} {i : Int} (h : ParseP x i d) (hi : i + 1 < x.length) (hc : (Txt.item x i == Str.ofString "\"") = true) (hn' : (Txt.item x (i + 1) != Str.ofString "\"") = true) : d = ⟨(parseL (x.cps.toList.drop 5)).toArray⟩ := by
  have h0 := h.low
  have hn : (Txt.item x (i + 1) == Str.ofString "\"") = false := by simpa [bne] using hn'
  rw [item_int (by omega) (by omega)] at hc
  rw [item_int (by omega) hi] at hn
  have e1 : x.cps.toList.getD i.toNat 0 = 34 := one_eq ((eq_of_beq hc).trans quo)
  have e2 : ¬ x.cps.toList.getD (i + 1).toNat 0 = 34 := fun e => by
    rw [e, quo] at hn
    simp at hn
  have ho := h.on
  rw [drop_head (by omega) (by omega), drop_head (by omega) hi, e1] at ho
  refine mk_list ?_
  rw [← ho]
  rw [parseL_end _ e2, List.append_nil]
end Mine
namespace Mine
theorem ne_same {prog : Program} {w : World} {A : Around} {E : Value → Shared → Prop} {s : Shared} {x y : Str} {t u : Tok} {Q : Value → Shared → Prop} (h : x = y) (hq : Q (.bool false) s) : wpAny (model prog w) A (compareOp .NotEq (.str x t) (.str y u)) Q E s := by
  refine ne_str ?_
  subst h
  rw [bne_self_eq_false]
  exact hq
theorem head3 {x : Str} {B : List Nat} (h : x.cps.toList = [50, 53, 55, 32, 34] ++ B) : Txt.slice x none (some 3) = Str.ofString "257" := by
  have hl : x.length = 5 + B.length := by rw [← len_list, h, List.length_append]; rfl
  have := slice_to x 3 (by omega)
  rw [h] at this
  exact this.trans (by show (⟨#[50, 53, 55]⟩ : Str) = _; decide +kernel)
theorem head5 {x : Str} {B : List Nat} (h : x.cps.toList = [50, 53, 55, 32, 34] ++ B) : Txt.slice x (some 3) (some 5) = Str.ofString " \"" := by
  have hl : x.length = 5 + B.length := by rw [← len_list, h, List.length_append]; rfl
  have := slice_mid x 3 5 (by omega) (by omega)
  rw [h] at this
  exact this.trans (by show (⟨#[32, 34]⟩ : Str) = _; decide +kernel)
local macro_rules | `(tactic| walk_at "compareOp NotEq str str") => `(tactic| (k_here; refine ne_same (by first | exact head3 (by assumption) | exact head5 (by assumption)) ?_))

set_option maxRecDepth 100000 in
set_option maxHeartbeats 60000000 in
theorem parse_use {w : World} {p : Program} {loose : List Str} {mean : ExcName → Option Value} {mg mb : Str → Option Value} {dp un : Nat} {gd : Option (List Code)} {cn : Str} {cs : Scope} {fa : Addr} {ccd : Value} {cl : List (Str × Addr)} {outer : List Env} {A₀ : Around} {base h₀ : Heap} {L : Addr} {m : Str → Option Value} {s : Shared} {Q E : Value → Shared → Prop} {news : List (Addr × Obj)}
    (x : Str) (tx : Tok) (B : List Nat) (hB : Below A₀ base outer h₀) (hF : Fr h₀ L s.heap m) (hK : (hd.heap_39 w.params).In h₀) (hN : News h₀ L s.heap news) (hT : Top p loose mean mg mb h₀) (hcs : cs.kind = .function)
    (hx0 : x.cps.toList = [50, 53, 55, 32, 34] ++ B) (hx : x.length ≤ 100) (hdp : dp + 1 < recursionLimit) (_hun : un + 8 < cLine)
    (hret : ∀ (t : Tok) (h' : Heap) (tk' : Nat), Fr h₀ L h' m → News h₀ L h' news → Q (.str ⟨(parseL (x.cps.toList.drop 5)).toArray⟩ t) { s with heap := h', toks := tk' }) :
    wpAny (model PySem.Challenge.rw_ta0011_01.row.prog w) (ktrTop dp un gd cn cs L fa ccd cl outer) (call (.ref 76) [.str x tx]) Q E s := by
  w_top off
  revert hK
  k_fill
  intro hK
  have hx5 : 5 ≤ x.length := by rw [← len_list, hx0, List.length_append]; exact Nat.le_add_right _ _
  refine wpAny_call ?_
  k_dflt cell_enter
  repeat' ((fail_if_success (with_reducible show wpAny _ _ (exec (Stmt.While _ _ _ _) _) _ _ _)); (first | (k_unfold; (try dsimp only)) | walk1 | (dsimp only; walk1)))
  k_with "state" => first | exact ParseP.start hx5 rfl | exact ParseP.plain kInv (by assumption) (by assumption) | exact ParseP.double kInv (by omega) (by assumption) (by assumption)
  k_while (fun (_ : List Int) (i : Int) (d : Str) => ParseP x i d) (fun (_ : List Int) (i : Int) (d : Str) => x.length - i.toNat) "i" "dirname"
  have h1 := kInv.low
  have h2 := kInv.high
  have h3 := kInv.short
  repeat' (first | (k_unfold; (try dsimp only)) | walk1 | (dsimp only; walk1))
  · exact cb_retS hret (ParseP.last kInv (by assumption) (by assumption) (by omega)) (by k_asm) (by k_asm)
  · exact cb_retS hret (ParseP.closed kInv (by omega) (by assumption) (by assumption)) (by k_asm) (by k_asm)
  · exact cb_retS hret (ParseP.over kInv (by assumption)) (by k_asm) (by k_asm)
end Mine
namespace Mine

theorem Fr.congr {h₀ h : Heap} {L : Addr} {m m' : Str → Option Value} (F : Fr h₀ L h m) (e : ∀ y, m y = m' y) : Fr h₀ L h m' := (funext e : m = m') ▸ F
abbrev setM (m : Str → Option Value) (x : Str) (v : Value) : Str → Option Value := fun y => if y = x then some v else m y
theorem setM_same {m : Str → Option Value} {x : Str} {v : Value} (h : m x = some v) : ∀ y, m y = setM m x v y := fun y => by
  by_cases e : y = x
  · show m y = if y = x then some v else m y
    rw [if_pos e, e, h]
  · show m y = if y = x then some v else m y
    rw [if_neg e]
theorem setM_twice {m : Str → Option Value} {x : Str} {v v' : Value} : ∀ y, (if y = x then some v else setM m x v' y) = setM m x v y := fun y => by
  by_cases e : y = x
  · show (if y = x then some v else if y = x then some v' else m y) = if y = x then some v else m y
    rw [if_pos e, if_pos e]
  · show (if y = x then some v else if y = x then some v' else m y) = if y = x then some v else m y
    rw [if_neg e, if_neg e, if_neg e]

theorem Fr.frame3 {h₀ h : Heap} {L : Addr} {x y z : Str} {u v w : Value} (F : Fr h₀ L h (fun n => [(z, w), (y, v), (x, u)].lookup n)) : Fr h₀ L h (setM (setM (setM (fun _ => none) x u) y v) z w) := Fr.congr F fun n => by
  show [(z, w), (y, v), (x, u)].lookup n = if n = z then some w else if n = y then some v else if n = x then some u else none
  simp only [List.lookup_cons, List.lookup_nil]
  by_cases h1 : n = z
  · simp [h1]
  · rw [beq_eq_false_iff_ne.mpr h1, if_neg h1]
    by_cases h2 : n = y
    · simp [h2]
    · rw [beq_eq_false_iff_ne.mpr h2, if_neg h2]
      by_cases h3 : n = x
      · simp [h3]
      · rw [beq_eq_false_iff_ne.mpr h3, if_neg h3]
theorem Fr.frame1 {h₀ h : Heap} {L : Addr} {x : Str} {u : Value} (F : Fr h₀ L h (fun n => [(x, u)].lookup n)) : Fr h₀ L h (setM (fun _ => none) x u) := Fr.congr F fun n => by
  show [(x, u)].lookup n = if n = x then some u else none
  simp only [List.lookup_cons, List.lookup_nil]
  by_cases h3 : n = x
  · simp [h3]
  · rw [beq_eq_false_iff_ne.mpr h3, if_neg h3]

/-- a test's end: what it is worth; the frame and the ledger as they were -/
structure Tested (h₀ : Heap) (L : Addr) (m : Str → Option Value) (news : List (Addr × Obj)) (s : Shared) (B : Bool) (b : Bool) (s₂ : Shared) : Prop where
  worth : b = B
  back : ∃ h' tk', s₂ = { s with heap := h', toks := tk' } ∧ Fr h₀ L h' m ∧ News h₀ L h' news
theorem Tested.mk' {h₀ : Heap} {L : Addr} {m : Str → Option Value} {news : List (Addr × Obj)} {s : Shared} {B b : Bool} {h' : Heap} {tk' : Nat} (e : b = B) (F : Fr h₀ L h' m) (N : News h₀ L h' news) : Tested h₀ L m news s B b { s with heap := h', toks := tk' } := ⟨e, h', tk', rfl, F, N⟩
/-- a turn's end: the counted name one further -/
structure Stepped (h₀ : Heap) (L : Addr) (m : Str → Option Value) (x : Str) (i : Int) (news : List (Addr × Obj)) (s : Shared) (f : Flow) (s₂ : Shared) : Prop where
  on : f = .next
  back : ∃ h' tk' t', s₂ = { s with heap := h', toks := tk' } ∧ Fr h₀ L h' (setM m x (.int i t')) ∧ News h₀ L h' news
theorem Stepped.mk' {h₀ : Heap} {L : Addr} {m : Str → Option Value} {x : Str} {i i' : Int} {v' : Value} {news : List (Addr × Obj)} {s : Shared} {h' : Heap} {tk' : Nat} {t' : Tok} (F : Fr h₀ L h' (fun y => if y = x then some (.int i' t') else setM m x v' y)) (e : i' = i) (N : News h₀ L h' news) : Stepped h₀ L m x i news s .next { s with heap := h', toks := tk' } := by
  subst e
  exact ⟨rfl, h', tk', t', rfl, Fr.congr F setM_twice, N⟩

section
variable {prog : Program} {w : World} {A : Around} {E : Value → Shared → Prop} {Q : Flow → Shared → Prop} {s : Shared} {env : Env} {h₀ : Heap} {L : Addr} {test : Expr} {body : List Stmt} {pos : Pos} {m₀ : Str → Option Value} {news : List (Addr × Obj)}
theorem while_count {x : Str} {t₀ : Tok} (φ : Nat → Int) (g : Nat → Bool) (K : Nat) (F : Fr h₀ L s.heap m₀) (N : News h₀ L s.heap news) (hx : m₀ x = some (.int (φ 0) t₀)) (hK : g K = false)
    (htest : ∀ k h tk t, (∀ j, j < k → g j = true) → Fr h₀ L h (setM m₀ x (.int (φ k) t)) → News h₀ L h news →
      wpAny (model prog w) A (isTrue test env (eval test env)) (Tested h₀ L (setM m₀ x (.int (φ k) t)) news s (g k)) E { s with heap := h, toks := tk })
    (hstep : ∀ k h tk t, (∀ j, j < k + 1 → g j = true) → Fr h₀ L h (setM m₀ x (.int (φ k) t)) → News h₀ L h news →
      wpAny (model prog w) A (execs body env) (Stepped h₀ L m₀ x (φ (k + 1)) news s) E { s with heap := h, toks := tk })
    (hdone : ∀ k h tk t, (∀ j, j < k → g j = true) → g k = false → Fr h₀ L h (setM m₀ x (.int (φ k) t)) → News h₀ L h news → Q .next { s with heap := h, toks := tk })
    (hE : PassesOwn (model prog w) A env E := by passes_own) :
    wpAny (model prog w) A (exec (.While test body [] pos) env) Q E s := by
  have low : ∀ k, (∀ j, j < k → g j = true) → k ≤ K := fun k h => Nat.not_lt.mp fun l => by
    have := h K l
    rw [hK] at this
    cases this
  refine While_inv2 (fun n m nx => ∃ k t, n = K - k ∧ (∀ j, j < k → g j = true) ∧ m = setM m₀ x (.int (φ k) t) ∧ nx = news) (n₀ := K) (Fr.congr F (setM_same hx)) N ⟨0, t₀, rfl, (fun j h => absurd h (Nat.not_lt_zero _)), rfl, rfl⟩ ?_ hE
  rintro n m₁ nx h tk F₁ N₁ ⟨k, t, rfl, hg, rfl, rfl⟩
  refine wpAny_mono (htest k h tk t hg F₁ N₁) (fun b s₂ hb => ?_) fun _ _ e => e
  obtain ⟨hw, h', tk', rfl, F₂, N₂⟩ := hb
  cases hgk : g k with
  | false =>
    rw [hw, hgk, if_neg Bool.false_ne_true]
    exact hdone k h' tk' t hg hgk F₂ N₂
  | true =>
    have hg' : ∀ j, j < k + 1 → g j = true := fun j hj => by
      by_cases e : j = k
      · rw [e, hgk]
      · exact hg j (by omega)
    rw [hw, hgk, if_pos rfl]
    refine wpAny_mono (hstep k h' tk' t hg' F₂ N₂) (fun f s₃ hf => ?_) fun _ _ e => e
    obtain ⟨rfl, h₃, tk₃, t₃, rfl, F₃, N₃⟩ := hf
    have := low _ hg'
    exact ⟨h₃, tk₃, _, _, K - (k + 1), rfl, F₃, N₃, by omega, k + 1, t₃, rfl, hg', rfl, rfl⟩
end

/-- one name stored -/
structure Stored (h₀ : Heap) (L : Addr) (m : Str → Option Value) (x : Str) (v : Str) (news : List (Addr × Obj)) (s : Shared) (f : Flow) (s₂ : Shared) : Prop where
  on : f = .next
  back : ∃ h' tk' t', s₂ = { s with heap := h', toks := tk' } ∧ Fr h₀ L h' (setM m x (.str v t')) ∧ News h₀ L h' news
theorem Stored.mk' {h₀ : Heap} {L : Addr} {m : Str → Option Value} {x v v' : Str} {news : List (Addr × Obj)} {s : Shared} {h' : Heap} {tk' : Nat} {t' : Tok} (F : Fr h₀ L h' (fun y => if y = x then some (.str v' t') else m y)) (e : v' = v) (N : News h₀ L h' news) : Stored h₀ L m x v news s .next { s with heap := h', toks := tk' } := by
  subst e
  exact ⟨rfl, h', tk', t', rfl, F, N⟩
theorem store_cut {prog : Program} {w : World} {A : Around} {E : Value → Shared → Prop} {Q : Flow → Shared → Prop} {s : Shared} {t : Sem Flow} {h₀ : Heap} {L : Addr} {m : Str → Option Value} {news : List (Addr × Obj)} (x v : Str) (_F : Fr h₀ L s.heap m) (_N : News h₀ L s.heap news)
    (h : wpAny (model prog w) A t (Stored h₀ L m x v news s) E s) (k : ∀ h' tk' t', Fr h₀ L h' (setM m x (.str v t')) → News h₀ L h' news → Q .next { s with heap := h', toks := tk' }) : wpAny (model prog w) A t Q E s :=
  wpAny_mono h (fun f s₂ hf => by
    obtain ⟨rfl, h', tk', t', rfl, F', N'⟩ := hf
    exact k h' tk' t' F' N') fun _ _ e => e
/-- all names but three forgotten -/
theorem Fr.forget3 {h₀ h : Heap} {L : Addr} {m : Str → Option Value} {x y z : Str} {u v w : Value} (F : Fr h₀ L h m) (hx : m x = some u) (hy : m y = some v) (hz : m z = some w) : ∃ m', Fr h₀ L h (setM (setM (setM m' x u) y v) z w) := by
  refine ⟨m, Fr.congr F fun n => ?_⟩
  show m n = if n = z then some w else if n = y then some v else if n = x then some u else m n
  by_cases h1 : n = z
  · rw [if_pos h1, h1, hz]
  · rw [if_neg h1]
    by_cases h2 : n = y
    · rw [if_pos h2, h2, hy]
    · rw [if_neg h2]
      by_cases h3 : n = x
      · rw [if_pos h3, h3, hx]
      · rw [if_neg h3]

/-! the two loops that strip -/
def gPre (la lb : List Nat) (k : Nat) : Bool := match la.drop k, lb.drop k with
  | c :: _, d :: _ => c == d
  | _, _ => false
theorem gPre_low {la lb : List Nat} : ∀ {k : Nat}, (∀ j, j < k → gPre la lb j = true) → k ≤ la.length ∧ k ≤ lb.length := fun {k} h => by
  cases k with
  | zero => exact ⟨Nat.zero_le _, Nat.zero_le _⟩
  | succ k =>
    have := h k (Nat.lt_succ_self _)
    unfold gPre at this
    have e1 : (la.drop k).length = la.length - k := List.length_drop ..
    have e2 : (lb.drop k).length = lb.length - k := List.length_drop ..
    cases h1 : la.drop k with
    | nil => rw [h1] at this; cases this
    | cons c r =>
      cases h2 : lb.drop k with
      | nil => rw [h1, h2] at this; cases this
      | cons d r' =>
        rw [h1, List.length_cons] at e1
        rw [h2, List.length_cons] at e2
        exact ⟨by omega, by omega⟩
theorem gPre_end (la lb : List Nat) : gPre la lb la.length = false := by
  unfold gPre
  rw [List.drop_length]
theorem gPre_strip : ∀ {k : Nat} {la lb : List Nat}, (∀ j, j < k → gPre la lb j = true) → gPre la lb k = false → stripPre la lb = (la.drop k, lb.drop k)
  | 0, la, lb, _, h => by
    rw [List.drop_zero, List.drop_zero]
    unfold gPre at h
    rw [List.drop_zero, List.drop_zero] at h
    cases la with
    | nil => rfl
    | cons c r =>
      cases lb with
      | nil => rfl
      | cons d r' =>
        have : ¬ c = d := by simpa using h
        show (if c = d then _ else _) = _
        rw [if_neg this]
  | k + 1, la, lb, hg, h => by
    have h0 := hg 0 (Nat.succ_pos _)
    unfold gPre at h0
    rw [List.drop_zero, List.drop_zero] at h0
    cases la with
    | nil => cases h0
    | cons c r =>
      cases lb with
      | nil => cases h0
      | cons d r' =>
        have e : c = d := by simpa using h0
        subst e
        show (if c = c then stripPre r r' else _) = (r.drop k, r'.drop k)
        rw [if_pos rfl]
        exact gPre_strip (fun j hj => by have := hg (j + 1) (Nat.succ_lt_succ hj); exact this) h
theorem drop_getD {l : List Nat} {k : Nat} (h : k < l.length) : l.drop k = l.getD k 0 :: l.drop (k + 1) := by
  rw [List.drop_eq_getElem_cons h, List.getD_eq_getElem?_getD, List.getElem?_eq_getElem h]; rfl
theorem gPre_at {la lb : List Nat} {k : Nat} (h1 : k < la.length) (h2 : k < lb.length) : gPre la lb k = (la.getD k 0 == lb.getD k 0) := by
  unfold gPre
  rw [drop_getD h1, drop_getD h2]
theorem gPre_left {la lb : List Nat} {k : Nat} (h1 : la.length ≤ k) : gPre la lb k = false := by
  unfold gPre
  rw [List.drop_of_length_le h1]
theorem gPre_right {la lb : List Nat} {k : Nat} (h1 : lb.length ≤ k) : gPre la lb k = false := by
  unfold gPre
  rw [List.drop_of_length_le h1]
  split <;> first | rfl | (rename_i h; cases h)

theorem one_beq (c d : Nat) : ((⟨#[c]⟩ : Str) == ⟨#[d]⟩) = (c == d) := by
  by_cases h : c = d
  · subst h; simp
  · have h1 : (⟨#[c]⟩ : Str) ≠ ⟨#[d]⟩ := fun e => h (by injection e with e; simpa using e)
    rw [beq_eq_false_iff_ne.mpr h, beq_eq_false_iff_ne.mpr h1]

abbrev preG (a b : Str) (k : Nat) : Bool := gPre a.cps.toList b.cps.toList k
section
variable {a b : Str} {k : Nat}
theorem pre_ka (hg : ∀ j, j < k → preG a b j = true) : k ≤ a.length := by have := (gPre_low hg).1; rwa [len_list] at this
theorem pre_kb (hg : ∀ j, j < k → preG a b j = true) : k ≤ b.length := by have := (gPre_low hg).2; rwa [len_list] at this
theorem slice_len (x : Str) (h : k ≤ x.length) : (Txt.slice x (some (k : Int)) none).length = x.length - k := by
  rw [slice_from x k h]
  show (List.drop k x.cps.toList).toArray.size = _
  rw [List.size_toArray, List.length_drop, len_list]
theorem pre_no_a (hg : ∀ j, j < k → preG a b j = true) (h : ((Txt.slice a (some (k : Int)) none).length : Int) = 0) : false = preG a b k := by
  rw [slice_len a (pre_ka hg)] at h
  have := pre_ka hg
  have h' : a.length ≤ k := by omega
  exact (gPre_left (by rw [len_list]; exact h')).symm
theorem pre_no_b (hg : ∀ j, j < k → preG a b j = true) (h : ((Txt.slice b (some (k : Int)) none).length : Int) = 0) : false = preG a b k := by
  rw [slice_len b (pre_kb hg)] at h
  have h' : b.length ≤ k := by
    have := pre_kb hg
    omega
  exact (gPre_right (by rw [len_list]; exact h')).symm
theorem pre_both (hg : ∀ j, j < k → preG a b j = true) (ha : ((Txt.slice a (some (k : Int)) none).length : Int) ≠ 0) (hb : ((Txt.slice b (some (k : Int)) none).length : Int) ≠ 0) {v : Bool}
    (h : (Txt.item a (k : Int) == Txt.item b (k : Int)) = v) : v = preG a b k := by
  rw [slice_len a (pre_ka hg)] at ha
  rw [slice_len b (pre_kb hg)] at hb
  have h1 : k < a.length := by omega
  have h2 : k < b.length := by omega
  rw [item_nat a k h1, item_nat b k h2, one_beq] at h
  rw [← h]
  exact (gPre_at (by rw [len_list]; exact h1) (by rw [len_list]; exact h2)).symm
end

abbrev postG (a b : Str) (k : Nat) : Bool := gPre a.cps.toList.reverse b.cps.toList.reverse k
theorem post_ka {a b : Str} {k : Nat} (hg : ∀ j, j < k → postG a b j = true) : k ≤ a.length := by have := (gPre_low hg).1; rwa [List.length_reverse, len_list] at this
theorem post_kb {a b : Str} {k : Nat} (hg : ∀ j, j < k → postG a b j = true) : k ≤ b.length := by have := (gPre_low hg).2; rwa [List.length_reverse, len_list] at this
theorem slice_neg_len (x : Str) {k : Nat} (h0 : -(k : Int) ≠ 0) (h : k ≤ x.length) : (Txt.slice x none (some (-(k : Int)))).length = x.length - k := by
  rw [slice_neg x k (by omega) h]
  show (List.take (x.length - k) x.cps.toList).toArray.size = _
  rw [List.size_toArray, List.length_take, len_list]
  omega
section
variable {a b x : Str} {k : Nat}
theorem post_lt0 (h0 : -(k : Int) = 0) (h : ((Txt.slice x none none).length : Int) ≠ 0) : k < x.length := by
  rw [slice_all] at h
  omega
theorem post_lt1 (h0 : -(k : Int) ≠ 0) (hk : k ≤ x.length) (h : ((Txt.slice x none (some (-(k : Int)))).length : Int) ≠ 0) : k < x.length := by
  rw [slice_neg_len x h0 hk] at h
  omega
theorem post_no_a0 (h0 : -(k : Int) = 0) (h : ((Txt.slice a none none).length : Int) = 0) : false = postG a b k := by
  rw [slice_all] at h
  exact (gPre_left (by rw [List.length_reverse, len_list]; omega)).symm
theorem post_no_b0 (h0 : -(k : Int) = 0) (h : ((Txt.slice b none none).length : Int) = 0) : false = postG a b k := by
  rw [slice_all] at h
  exact (gPre_right (by rw [List.length_reverse, len_list]; omega)).symm
theorem post_no_a1 (h0 : -(k : Int) ≠ 0) (hk : k ≤ a.length) (h : ((Txt.slice a none (some (-(k : Int)))).length : Int) = 0) : false = postG a b k := by
  rw [slice_neg_len a h0 hk] at h
  exact (gPre_left (by rw [List.length_reverse, len_list]; omega)).symm
theorem post_no_b1 (h0 : -(k : Int) ≠ 0) (hk : k ≤ b.length) (h : ((Txt.slice b none (some (-(k : Int)))).length : Int) = 0) : false = postG a b k := by
  rw [slice_neg_len b h0 hk] at h
  exact (gPre_right (by rw [List.length_reverse, len_list]; omega)).symm
theorem item_back (h : k < x.length) : Txt.item x (-(k : Int) - 1) = ⟨#[x.cps.toList.reverse.getD k 0]⟩ := by
  have e : (-(k : Int) - 1) = -((k + 1 : Nat) : Int) := by omega
  rw [e, item_neg x (k + 1) (by omega) (by omega)]
  have e2 : x.cps.toList.getD (x.length - (k + 1)) 0 = x.cps.toList.reverse.getD k 0 := by
    rw [List.getD_eq_getElem?_getD, List.getD_eq_getElem?_getD, List.getElem?_reverse (by rw [len_list]; exact h), len_list, show x.length - (k + 1) = x.length - 1 - k by omega]
  rw [e2]
theorem post_both {v : Bool} (h1 : k < a.length) (h2 : k < b.length) (h : (Txt.item a (-(k : Int) - 1) == Txt.item b (-(k : Int) - 1)) = v) : v = postG a b k := by
  rw [item_back h1, item_back h2, one_beq] at h
  rw [← h]
  exact (gPre_at (by rw [List.length_reverse, len_list]; exact h1) (by rw [List.length_reverse, len_list]; exact h2)).symm
abbrev cutS (x : Str) (k : Nat) : Str := ⟨(x.cps.toList.take (x.length - k)).toArray⟩
theorem cut0 (h0 : -(k : Int) = 0) : Txt.slice x none none = cutS x k := by
  have hk : k = 0 := by omega
  subst hk
  rw [slice_all]
  refine mk_list ?_
  rw [List.take_of_length_le (by rw [len_list]; omega)]
theorem cut1 (h0 : -(k : Int) ≠ 0) (hk : k ≤ x.length) : Txt.slice x none (some (-(k : Int))) = cutS x k := slice_neg x k (by omega) hk
theorem strip_cut {a0 b0 : List Nat} (h1 : stripPre a0 b0 = (a.cps.toList, b.cps.toList)) (h2 : stripPre a.cps.toList.reverse b.cps.toList.reverse = (a.cps.toList.reverse.drop k, b.cps.toList.reverse.drop k)) : stripF a0 b0 = ((cutS a k).cps.toList, (cutS b k).cps.toList) := by
  unfold stripF stripPost
  rw [h1]
  dsimp only
  rw [h2]
  simp only [List.reverse_drop, List.reverse_reverse, List.length_reverse, len_list]
theorem cut_len (x : Str) (k : Nat) : (cutS x k).length ≤ x.length := by
  show (List.take (x.length - k) x.cps.toList).toArray.size ≤ _
  rw [List.size_toArray, List.length_take]
  omega
/-- a sign from behind -/
theorem item_walk {prog : Program} {w : World} {A : Around} {E : Value → Shared → Prop} {s : Shared} {value slice : PySem.Expr} {t u : Tok} {Q : Value → Shared → Prop} (h : k < x.length) (hx : x.length ≤ 16777216)
    (hq : Q (.str (Txt.item x (-(k : Int) - 1)) s.toks) { s with toks := s.toks + 1 })
    (hs : subscripted slice false (.str x t) (.int (-(k : Int) - 1) u) = operate [.str x t, .int (-(k : Int) - 1) u] (getItem (.str x t) (.int (-(k : Int) - 1) u)) := by with_unfolding_all rfl)
    (ht : ∀ r, letTemporaryGo value (.str x t) r = pure () := by intro _; with_unfolding_all rfl) :
    wpAny (model prog w) A (subscriptTail value slice (.str x t) (.int (-(k : Int) - 1) u)) Q E s :=
  KXi.item (n := x.length) rfl (by omega) (by omega) hx (fun _ => hq) hs ht
end
end Mine
namespace Mine
theorem rowOf_eq (n : Nat) : rangeInts 2 2 n = rowOf n := by
  unfold rangeInts rowOf
  apply List.map_congr_left
  intro i _
  show (2 : Int) + (i : Int) * 2 = 2 + 2 * (i : Int)
  omega
theorem row_small {n : Nat} (h : n ≤ 40) : Builtin.Range.small 2 (2 * ((n : Int) + 1)) 2 = true := (by decide : ∀ n : Nat, n < 41 → Builtin.Range.small 2 (2 * ((n : Int) + 1)) 2 = true) n (by omega)
theorem row_size {n : Nat} (h : n ≤ 40) : Builtin.Range.rangeSize 2 (2 * ((n : Int) + 1)) 2 = (n : Int) := (by decide : ∀ n : Nat, n < 41 → Builtin.Range.rangeSize 2 (2 * ((n : Int) + 1)) 2 = (n : Int)) n (by omega)
theorem rowOf_length (n : Nat) : (rowOf n).length = n := by simp [rowOf]
section
variable {prog : Program} {w : World} {A : Around} {E : Value → Shared → Prop} {s : Shared} {h₀ : Heap} {L : Addr} {m : Str → Option Value} {Q : Value → Shared → Prop} {news : List (Addr × Obj)}
theorem list_row {r : Addr} {t u v : Tok} {n : Nat} (hh : A.handled = none) (F : Fr h₀ L s.heap m) (N : News h₀ L s.heap news) (hr : IsRange s.heap r 2 (2 * ((n : Int) + 1)) 2 t u v) (hn : n ≤ 40)
    (hQ : ∀ l h' tk (ys : List Value) c, Fr h₀ L h' m → News h₀ L h' ((l, listOf ys.toArray c) :: news) → IntsAre ys (rowOf n) → (∀ p ∈ news, p.1 < l) → Q (.ref l) { s with heap := h', toks := tk }) : wpAny (model prog w) A (call (.type "list") [.ref r]) Q E s := by
  refine list_rangeD hh F N hr (row_small hn) (row_size hn) (by omega) fun h' tk ys F' N' hk hnone hl hp hc => ?_
  rw [rowOf_eq] at hc
  obtain ⟨⟨c, hpl⟩, hne⟩ := hp
  refine hQ _ h' tk ys c F' (fun p hp => ?_) (IntsAre.ofCarried hc) fun p hp => Heap.lt_size (N p hp).1
  rcases List.mem_cons.mp hp with rfl | hp
  · refine ⟨hpl, ?_, hnone⟩
    have := F.ns.lt
    exact Nat.ne_of_gt this
  · exact N' p hp
end

theorem item_row {prog : Program} {w : World} {A : Around} {E : Value → Shared → Prop} {s : Shared} {value slice : PySem.Expr} {l : Addr} {vs : List Value} {ns : List Int} {i : Nat} {u : Tok} {Q : Value → Shared → Prop} (hl : s.heap.IsList l vs.toArray) (hi : IntsAre vs ns) (hn : i < ns.length) (hb : ns.length ≤ 1000000)
    (h : ∀ t, Q (.int (ns.getD i 0) t) s)
    (hs : subscripted slice false (.ref l) (.int (0 + (i : Int)) u) = operate [.ref l, .int (0 + (i : Int)) u] (getItem (.ref l) (.int (0 + (i : Int)) u)) := by with_unfolding_all rfl) :
    wpAny (model prog w) A (subscriptTail value slice (.ref l) (.int (0 + (i : Int)) u)) Q E s := by
  have hg : ns[i]? = some (ns.getD i 0) := by rw [List.getD_eq_getElem?_getD, List.getElem?_eq_getElem hn]; rfl
  obtain ⟨t, ht⟩ := hi.get i _ hg
  exact tail_any hl.typeIs slot_list_getitem.lookup (wpAny_getItem_list hl (by omega) (by omega) (by rw [show (0 + (i : Int)).toNat = i by omega]; simpa using ht) (h t)) hs

/-- the two texts, the shorter first -/
structure Swapped (h₀ : Heap) (L : Addr) (mx : Int) (tm : Tok) (p q : Str) (news : List (Addr × Obj)) (s : Shared) (f : Flow) (s₂ : Shared) : Prop where
  on : f = .next
  back : ∃ h' tk' m' ta tb, s₂ = { s with heap := h', toks := tk' } ∧ Fr h₀ L h' (setM (setM (setM m' (Str.ofString "max_cost") (.int mx tm)) (Str.ofString "a") (.str p ta)) (Str.ofString "b") (.str q tb)) ∧ News h₀ L h' news
theorem Swapped.mk' {h₀ : Heap} {L : Addr} {mx : Int} {tm ta tb : Tok} {p q p' q' : Str} {m : Str → Option Value} {news news' : List (Addr × Obj)} {s : Shared} {h' : Heap} {tk' : Nat} (F : Fr h₀ L h' m) (hx : m (Str.ofString "max_cost") = some (.int mx tm)) (ha : m (Str.ofString "a") = some (.str p' ta)) (hb : m (Str.ofString "b") = some (.str q' tb))
    (N : News h₀ L h' news') (hs : ∀ x ∈ news, x ∈ news') (e : p' = p ∧ q' = q) : Swapped h₀ L mx tm p q news s .next { s with heap := h', toks := tk' } := by
  obtain ⟨rfl, rfl⟩ := e
  obtain ⟨m', F'⟩ := Fr.forget3 F hx ha hb
  exact ⟨rfl, h', tk', m', ta, tb, rfl, F', fun x hx => N x (hs x hx)⟩
theorem swap_cut {prog : Program} {w : World} {A : Around} {E : Value → Shared → Prop} {Q : Flow → Shared → Prop} {s : Shared} {t : Sem Flow} {h₀ : Heap} {L : Addr} {mx : Int} {tm : Tok} {m : Str → Option Value} {news : List (Addr × Obj)} (p q : Str) (_F : Fr h₀ L s.heap m) (_hx : m (Str.ofString "max_cost") = some (.int mx tm)) (_N : News h₀ L s.heap news)
    (h : wpAny (model prog w) A t (Swapped h₀ L mx tm p q news s) E s) (k : ∀ h' tk' m' ta tb, Fr h₀ L h' (setM (setM (setM m' (Str.ofString "max_cost") (.int mx tm)) (Str.ofString "a") (.str p ta)) (Str.ofString "b") (.str q tb)) → News h₀ L h' news → Q .next { s with heap := h', toks := tk' }) : wpAny (model prog w) A t Q E s :=
  wpAny_mono h (fun f s₂ hf => by
    obtain ⟨rfl, h', tk', m', ta, tb, rfl, F', N'⟩ := hf
    exact k h' tk' m' ta tb F' N') fun _ _ e => e
theorem swap_yes {a b : Str} (h : (b.length : Int) < a.length) : b = (if b.length < a.length then b else a) ∧ a = (if b.length < a.length then a else b) := by
  have : b.length < a.length := by omega
  rw [if_pos this, if_pos this]
  exact ⟨rfl, rfl⟩
theorem swap_no {a b : Str} (h : ¬ (b.length : Int) < a.length) : a = (if b.length < a.length then b else a) ∧ b = (if b.length < a.length then a else b) := by
  have : ¬ b.length < a.length := by omega
  rw [if_neg this, if_neg this]
  exact ⟨rfl, rfl⟩
structure Core (a b p q : Str) (mx : Int) : Prop where
  pl : p.length ≤ 40
  ql : q.length ≤ 40
  pm : ∀ c ∈ p.cps.toList, Mk c
  qm : ∀ c ∈ q.cps.toList, Mk c
  is : coreF a.cps.toList b.cps.toList mx = if ((q.length : Int) - p.length) * 2 > mx then mx + 1 else outerRun p.cps.toList mx q.cps.toList 0 (rowOf p.length) 0
theorem core_of {a b : Str} {mx : Int} (ha : (a.length : Int) ≠ 0) (hb : (b.length : Int) ≠ 0) (hal : a.length ≤ 40) (hbl : b.length ≤ 40) (hma : ∀ c ∈ a.cps.toList, Mk c) (hmb : ∀ c ∈ b.cps.toList, Mk c) :
    Core a b (if b.length < a.length then b else a) (if b.length < a.length then a else b) mx := by
  have h1 : ¬ (a.cps.toList = [] ∨ b.cps.toList = []) := by
    rintro (h | h)
    · have := len_list a; rw [h, List.length_nil] at this; omega
    · have := len_list b; rw [h, List.length_nil] at this; omega
  have h2 : ¬ ((a.cps.toList.length : Int) > 40 ∨ (b.cps.toList.length : Int) > 40) := by rw [len_list, len_list]; omega
  by_cases h : b.length < a.length
  · rw [if_pos h, if_pos h]
    refine ⟨hbl, hal, hmb, hma, ?_⟩
    unfold coreF
    rw [if_neg h1, if_neg h2]
    simp only [len_list, if_pos h]
  · rw [if_neg h, if_neg h]
    refine ⟨hal, hbl, hma, hmb, ?_⟩
    unfold coreF
    rw [if_neg h1, if_neg h2]
    simp only [len_list, if_neg h]
/-- between the turns of the outer loop -/
structure OuterP (la lb : List Nat) (mx : Int) (n : Nat) (row : List Int) (r : Int) : Prop where
  len : row.length = la.length
  on : outerRun la mx (lb.drop n) n row r = outerRun la mx lb 0 (rowOf la.length) 0
theorem OuterP.start (la lb : List Nat) (mx : Int) : OuterP la lb mx 0 (rowOf la.length) 0 := ⟨rowOf_length _, rfl⟩
/-- between the turns of the inner loop -/
structure InnerP (la : List Nat) (bc : Nat) (k : Int) (row₀ : List Int) (n : Nat) (d r mn : Int) (row : List Int) : Prop where
  len : row.length = la.length
  on : innerRun bc (la.drop n) (row.drop n) d r mn (row.take n) = innerRun bc la row₀ (k * 2) (k * 2) 9223372036854775807 []
theorem InnerP.start {la : List Nat} {bc : Nat} {k : Int} {row : List Int} (h : row.length = la.length) : InnerP la bc k row 0 (k * 2) (k * 2) 9223372036854775807 row := ⟨h, rfl⟩
theorem set_take {row : List Int} {n : Nat} {x : Int} (h : n < row.length) : (row.set n x).take (n + 1) = row.take n ++ [x] := by
  rw [List.take_add_one, List.take_set_of_le (Nat.le_refl n), List.getElem?_set_self h]
  rfl
theorem set_drop {row : List Int} {n : Nat} {x : Int} : (row.set n x).drop (n + 1) = row.drop (n + 1) := by
  rw [List.drop_set_of_lt (Nat.lt_succ_self n)]
theorem drop_getDI {l : List Int} {k : Nat} (h : k < l.length) : l.drop k = l.getD k 0 :: l.drop (k + 1) := by
  rw [List.drop_eq_getElem_cons h, List.getD_eq_getElem?_getD, List.getElem?_eq_getElem h]; rfl
theorem InnerP.step {la : List Nat} {bc : Nat} {k : Int} {row₀ : List Int} {pre : List Int} {d r mn mn' S X x : Int} {row : List Int} (h : InnerP la bc k row₀ pre.length d r mn row) (hn : pre.length < la.length) (hS : S = subC bc (la.getD pre.length 0))
    (hX : X = minF (minF r (row.getD (0 + (pre.length : Int)).toNat 0) + 2) (d + S)) (hm : (if X < mn then X else mn) = mn') : InnerP la bc k row₀ (pre ++ [x]).length (row.getD (0 + (pre.length : Int)).toNat 0) X mn' (row.set (0 + (pre.length : Int)).toNat X) := by
  have e : (0 + (pre.length : Int)).toNat = pre.length := by omega
  have e2 : (pre ++ [x]).length = pre.length + 1 := by simp
  rw [e] at hX ⊢
  rw [e2]
  have hr : pre.length < row.length := by rw [h.len]; exact hn
  refine ⟨by rw [List.length_set]; exact h.len, ?_⟩
  rw [set_take hr, set_drop]
  have ho := h.on
  rw [drop_getD hn, drop_getDI hr] at ho
  rw [← ho]
  show _ = innerRun bc (la.drop (pre.length + 1)) (row.drop (pre.length + 1)) (row.getD pre.length 0) _ _ _
  rw [← hS, ← hX, hm]
theorem InnerP.done {la : List Nat} {bc : Nat} {k : Int} {row₀ : List Int} {n : Nat} {d r mn : Int} {row : List Int} (h : InnerP la bc k row₀ n d r mn row) (hn : n = la.length) : innerRun bc la row₀ (k * 2) (k * 2) 9223372036854775807 [] = (r, mn, row) := by
  have ho := h.on
  rw [hn, List.drop_length] at ho
  rw [← ho]
  show (r, mn, row.take la.length ++ row.drop la.length) = _
  rw [List.take_append_drop]
theorem OuterP.turn {la lb : List Nat} {mx : Int} {pre : List Int} {row₀ row : List Int} {r₀ r mn : Int} (h : OuterP la lb mx pre.length row₀ r₀) (hn : pre.length < lb.length) (hi : innerRun (lb.getD pre.length 0) la row₀ ((0 + (pre.length : Int)) * 2) ((0 + (pre.length : Int)) * 2) 9223372036854775807 [] = (r, mn, row)) :
    (if mn > mx then mx + 1 else outerRun la mx (lb.drop (pre.length + 1)) ((pre.length : Int) + 1) row r) = outerRun la mx lb 0 (rowOf la.length) 0 := by
  have ho := h.on
  rw [drop_getD hn] at ho
  rw [← ho]
  rw [Int.zero_add] at hi
  show _ = (if (innerRun (lb.getD pre.length 0) la row₀ ((pre.length : Int) * 2) ((pre.length : Int) * 2) 9223372036854775807 []).2.1 > mx then mx + 1
    else outerRun la mx (lb.drop (pre.length + 1)) ((pre.length : Int) + 1) (innerRun (lb.getD pre.length 0) la row₀ ((pre.length : Int) * 2) ((pre.length : Int) * 2) 9223372036854775807 []).2.2 (innerRun (lb.getD pre.length 0) la row₀ ((pre.length : Int) * 2) ((pre.length : Int) * 2) 9223372036854775807 []).1)
  rw [hi]
theorem OuterP.stop {la lb : List Nat} {mx : Int} {pre : List Int} {row₀ row : List Int} {r₀ r mn d : Int} {n : Nat} (h : OuterP la lb mx pre.length row₀ r₀) (hn : pre.length < lb.length) (hi : InnerP la (lb.getD pre.length 0) (0 + (pre.length : Int)) row₀ n d r mn row) (hl : n = la.length) (hgt : mx < mn) :
    mx + 1 = outerRun la mx lb 0 (rowOf la.length) 0 := by
  rw [← h.turn hn (hi.done hl), if_pos hgt]
theorem OuterP.step {la lb : List Nat} {mx : Int} {pre : List Int} {row₀ row : List Int} {r₀ r mn d x : Int} {n : Nat} (h : OuterP la lb mx pre.length row₀ r₀) (hn : pre.length < lb.length) (hi : InnerP la (lb.getD pre.length 0) (0 + (pre.length : Int)) row₀ n d r mn row) (hl : n = la.length) (hgt : ¬ mx < mn) :
    OuterP la lb mx (pre ++ [x]).length row r := by
  have e2 : (pre ++ [x]).length = pre.length + 1 := by simp
  rw [e2]
  refine ⟨hi.len, ?_⟩
  rw [← h.turn hn (hi.done hl), if_neg hgt]
  rfl
theorem OuterP.done {la lb : List Nat} {mx : Int} {n : Nat} {row : List Int} {r : Int} (h : OuterP la lb mx n row r) (hn : n = lb.length) : r = outerRun la mx lb 0 (rowOf la.length) 0 := by
  have ho := h.on
  rw [hn, List.drop_length] at ho
  exact ho
theorem lev_same {a b : Str} {mx : Int} (h : (a == b) = true) : (0 : Int) = levF a.cps.toList b.cps.toList mx := by
  have : a = b := eq_of_beq h
  unfold levF
  rw [this, if_pos rfl]
theorem lev_other {a b a2 b2 : Str} {mx : Int} (h : (a == b) = false) (hs : stripF a.cps.toList b.cps.toList = (a2.cps.toList, b2.cps.toList)) : levF a.cps.toList b.cps.toList mx = coreF a2.cps.toList b2.cps.toList mx := by
  have : ¬ a.cps.toList = b.cps.toList := fun e => (beq_eq_false_iff_ne.mp h) ((mk_list e).trans (mk_list rfl).symm)
  unfold levF
  rw [if_neg this, hs]
theorem core_nil {a b : Str} {mx : Int} (h : (a.length : Int) = 0 ∨ (b.length : Int) = 0) : 2 * ((a.length : Int) + b.length) = coreF a.cps.toList b.cps.toList mx := by
  have h1 : a.cps.toList = [] ∨ b.cps.toList = [] := h.imp (fun e => List.eq_nil_of_length_eq_zero (by rw [len_list]; omega)) fun e => List.eq_nil_of_length_eq_zero (by rw [len_list]; omega)
  unfold coreF
  rw [if_pos h1, len_list, len_list]
end Mine
namespace Mine
theorem ints3 {vs : List Value} {ns : List Int} (h : IntsAre vs ns) (hl : ns.length = 3) : ∃ c0 c1 c2 t0 t1 t2, vs = [.int c0 t0, .int c1 t1, .int c2 t2] ∧ ns = [c0, c1, c2] := by
  cases h with
  | nil => cases hl
  | cons c0 t0 h =>
    cases h with
    | nil => cases hl
    | cons c1 t1 h =>
      cases h with
      | nil => cases hl
      | cons c2 t2 h =>
        cases h with
        | nil => exact ⟨c0, c1, c2, t0, t1, t2, rfl, rfl⟩
        | cons c3 t3 h => simp at hl
end Mine
namespace Mine
/-- the name stored -/
structure NamePost (h₀ : Heap) (L : Addr) (lc : Addr) (lo : Obj) (s : Shared) (f : Flow) (s₂ : Shared) : Prop where
  on : f = .next
  back : ∃ h' tk' m' t' A B n, s₂ = { s with heap := h', toks := tk' } ∧ Nam A B n ∧ Fr h₀ L h' (setM (setM m' (Str.ofString "cells") (.ref lc)) (Str.ofString "name") (.str (nm A B n 0 0) t')) ∧ News h₀ L h' [(lc, lo)]
theorem NamePost.mk' {h₀ : Heap} {L : Addr} {lc : Addr} {lo : Obj} {s : Shared} {m : Str → Option Value} {news : List (Addr × Obj)} {h' : Heap} {tk' : Nat} {v : Str} {t' : Tok} {A B : List Nat} {n : Nat} (F : Fr h₀ L h' (fun y => if y = Str.ofString "name" then some (.str v t') else m y)) (hc : m (Str.ofString "cells") = some (.ref lc))
    (N : News h₀ L h' news) (hm : (lc, lo) ∈ news) (H : Nam A B n) (e : v = nm A B n 0 0) : NamePost h₀ L lc lo s .next { s with heap := h', toks := tk' } := by
  subst e
  refine ⟨rfl, h', tk', m, t', A, B, n, rfl, H, Fr.congr F fun y => ?_, fun p hp => by rw [List.mem_singleton.mp hp]; exact N _ hm⟩
  show (if y = Str.ofString "name" then _ else m y) = if y = Str.ofString "name" then _ else if y = Str.ofString "cells" then some (.ref lc) else m y
  by_cases h1 : y = Str.ofString "name"
  · rw [if_pos h1, if_pos h1]
  · rw [if_neg h1, if_neg h1]
    by_cases h2 : y = Str.ofString "cells"
    · rw [if_pos h2, h2, hc]
    · rw [if_neg h2]
theorem name_cut {prog : Program} {w : World} {A : Around} {E : Value → Shared → Prop} {Q : Flow → Shared → Prop} {s : Shared} {t : Sem Flow} {h₀ : Heap} {L : Addr} {m : Str → Option Value} {news : List (Addr × Obj)} {lc : Addr} (lo : Obj) (_F : Fr h₀ L s.heap m) (_hc : m (Str.ofString "cells") = some (.ref lc)) (_N : News h₀ L s.heap news) (_hm : (lc, lo) ∈ news)
    (h : wpAny (model prog w) A t (NamePost h₀ L lc lo s) E s) (k : ∀ h' tk' m' t' A B n, Nam A B n → Fr h₀ L h' (setM (setM m' (Str.ofString "cells") (.ref lc)) (Str.ofString "name") (.str (nm A B n 0 0) t')) → News h₀ L h' [(lc, lo)] → Q .next { s with heap := h', toks := tk' }) : wpAny (model prog w) A t Q E s :=
  wpAny_mono h (fun f s₂ hf => by
    obtain ⟨rfl, h', tk', m', t', A, B, n, rfl, H, F', N'⟩ := hf
    exact k h' tk' m' t' A B n H F' N') fun _ _ e => e
end Mine
namespace Mine
abbrev sg (c : Int) : Nat := (161 + (c.fdiv 27).fmod 50000).toNat
theorem sg_mk (c : Int) : ¬ Mk (sg c) := by
  have h := Int.fmod_eq_emod_of_nonneg (c.fdiv 27) (b := 50000) (by decide)
  have h2 := Int.emod_nonneg (c.fdiv 27) (b := 50000) (by decide)
  unfold Mk sg
  omega
theorem nam_of {A B : List Nat} {n : Nat} (hA : A = [] ∨ ∃ c, A = [sg c]) (hB : (∃ c, B = [sg c]) ∨ ∃ c d, B = [sg c, sg d]) (h1 : 1 ≤ n) (h3 : n ≤ 3) : Nam A B n := by
  refine ⟨fun x hx => ?_, fun x hx => ?_, ?_, ?_, h1, h3⟩
  · rcases hA with rfl | ⟨c, rfl⟩
    · cases hx
    · rw [List.mem_singleton.mp hx]; exact sg_mk c
  · rcases hB with ⟨c, rfl⟩ | ⟨c, d, rfl⟩
    · rw [List.mem_singleton.mp hx]; exact sg_mk c
    · rcases List.mem_cons.mp hx with rfl | hx
      · exact sg_mk c
      · rw [List.mem_singleton.mp hx]; exact sg_mk d
  · rcases hA with rfl | ⟨c, rfl⟩ <;> simp
  · rcases hB with ⟨c, rfl⟩ | ⟨c, d, rfl⟩ <;> simp
theorem q0 : (Str.ofString "").cps.toList = [] := by decide +kernel
theorem q1 : (Str.ofString "\"").cps.toList = [34] := by decide +kernel
theorem q2 : (Str.ofString "\"\"").cps.toList = [34, 34] := by decide +kernel
theorem q3 : (Str.ofString "\"\"\"").cps.toList = [34, 34, 34] := by decide +kernel
end Mine
namespace Mine
def subF (x y : Str) : Int := if x = y then 0 else 2

set_option maxRecDepth 100000 in
set_option maxHeartbeats 60000000 in
theorem sub_use {w : World} {p : Program} {loose : List Str} {mean : ExcName → Option Value} {mg mb : Str → Option Value} {dp un : Nat} {gd : Option (List Code)} {cn : Str} {cs : Scope} {fa : Addr} {ccd : Value} {cl : List (Str × Addr)} {outer : List Env} {A₀ : Around} {base h₀ : Heap} {L : Addr} {m : Str → Option Value} {s : Shared} {Q E : Value → Shared → Prop} {news : List (Addr × Obj)}
    (x y : Str) (tx ty : Tok) (hB : Below A₀ base outer h₀) (hF : Fr h₀ L s.heap m) (hK : (hd.heap_39 w.params).In h₀) (hN : News h₀ L s.heap news) (hT : Top p loose mean mg mb h₀) (hcs : cs.kind = .function)
    (hx : x = Str.ofString "\\" ∨ x = Str.ofString "\"") (hy : y = Str.ofString "\\" ∨ y = Str.ofString "\"") (hdp : dp + 1 < recursionLimit) (hun : un + 8 < cLine)
    (hret : ∀ (t : Tok) (h' : Heap) (tk' : Nat), Fr h₀ L h' m → News h₀ L h' news → Q (.int (subF x y) t) { s with heap := h', toks := tk' }) :
    wpAny (model PySem.Challenge.rw_ta0011_01.row.prog w) (ktrTop dp un gd cn cs L fa ccd cl outer) (call (.ref 83) [.str x tx, .str y ty]) Q E s := by
  w_top off
  revert hK
  k_fill
  intro hK
  rcases hx with rfl | rfl <;> rcases hy with rfl | rfl
  all_goals
    refine wpAny_call ?_
    k_dflt cell_enter
    k_steps
    all_goals cb_end hret

theorem item_mk {x : Str} (h : ∀ c ∈ x.cps.toList, Mk c) {i : Nat} (hi : i < x.length) : Txt.item x (0 + (i : Int)) = Str.ofString "\\" ∨ Txt.item x (0 + (i : Int)) = Str.ofString "\"" := by
  rw [Int.zero_add, item_nat x i hi]
  have hm : x.cps.toList.getD i 0 ∈ x.cps.toList := strs_getD_mem (by rw [len_list]; exact hi)
  rcases h _ hm with e | e
  · rw [e]; exact .inr (by decide +kernel)
  · rw [e]; exact .inl (by decide +kernel)
theorem subF_item {x y : Str} {i j : Nat} (hi : i < x.length) (hj : j < y.length) : subF (Txt.item x (0 + (i : Int))) (Txt.item y (0 + (j : Int))) = subC (x.cps.toList.getD i 0) (y.cps.toList.getD j 0) := by
  rw [Int.zero_add, Int.zero_add, item_nat x i hi, item_nat y j hj]
  unfold subF subC
  by_cases h : x.cps.toList.getD i 0 = y.cps.toList.getD j 0
  · rw [if_pos (by rw [h]), if_pos h]
  · rw [if_neg (fun e => h (by injection e with e; simpa using e)), if_neg h]
end Mine
namespace Mine

theorem while_pre {prog : Program} {w : World} {A : Around} {E : Value → Shared → Prop} {Q : Flow → Shared → Prop} {s : Shared} {env : Env} {h₀ : Heap} {L : Addr} {test : Expr} {body : List Stmt} {pos : Pos} {m₀ : Str → Option Value} {news : List (Addr × Obj)}
    {a b : Str} {ta tb t₀ : Tok} (F : Fr h₀ L s.heap m₀) (N : News h₀ L s.heap news) (_ha : m₀ (Str.ofString "a") = some (.str a ta)) (_hb : m₀ (Str.ofString "b") = some (.str b tb)) (hx : m₀ (Str.ofString "pre") = some (.int 0 t₀))
    (htest : ∀ (k : Nat) h tk t, (∀ j, j < k → preG a b j = true) → k ≤ a.length → k ≤ b.length → Fr h₀ L h (setM m₀ (Str.ofString "pre") (.int (k : Int) t)) → News h₀ L h news →
      wpAny (model prog w) A (isTrue test env (eval test env)) (Tested h₀ L (setM m₀ (Str.ofString "pre") (.int (k : Int) t)) news s (preG a b k)) E { s with heap := h, toks := tk })
    (hstep : ∀ (k : Nat) h tk t, Fr h₀ L h (setM m₀ (Str.ofString "pre") (.int (k : Int) t)) → News h₀ L h news →
      wpAny (model prog w) A (execs body env) (Stepped h₀ L m₀ (Str.ofString "pre") ((k + 1 : Nat) : Int) news s) E { s with heap := h, toks := tk })
    (hdone : ∀ (k : Nat) h tk t, stripPre a.cps.toList b.cps.toList = (a.cps.toList.drop k, b.cps.toList.drop k) → k ≤ a.length → k ≤ b.length → Fr h₀ L h (setM m₀ (Str.ofString "pre") (.int (k : Int) t)) → News h₀ L h news → Q .next { s with heap := h, toks := tk })
    (hE : PassesOwn (model prog w) A env E := by passes_own) :
    wpAny (model prog w) A (exec (.While test body [] pos) env) Q E s :=
  while_count (fun k => (k : Int)) (preG a b) a.cps.toList.length F N hx (gPre_end _ _) (fun k h tk t hg => htest k h tk t hg (pre_ka hg) (pre_kb hg)) (fun k h tk t _ => hstep k h tk t)
    (fun k h tk t hg hk => hdone k h tk t (gPre_strip hg hk) (pre_ka hg) (pre_kb hg)) hE

theorem while_post {prog : Program} {w : World} {A : Around} {E : Value → Shared → Prop} {Q : Flow → Shared → Prop} {s : Shared} {env : Env} {h₀ : Heap} {L : Addr} {test : Expr} {body : List Stmt} {pos : Pos} {m₀ : Str → Option Value} {news : List (Addr × Obj)}
    {a b : Str} {ta tb t₀ : Tok} (F : Fr h₀ L s.heap m₀) (N : News h₀ L s.heap news) (_ha : m₀ (Str.ofString "a") = some (.str a ta)) (_hb : m₀ (Str.ofString "b") = some (.str b tb)) (hx : m₀ (Str.ofString "post") = some (.int 0 t₀))
    (htest : ∀ (k : Nat) h tk t, (∀ j, j < k → postG a b j = true) → k ≤ a.length → k ≤ b.length → Fr h₀ L h (setM m₀ (Str.ofString "post") (.int (-(k : Int)) t)) → News h₀ L h news →
      wpAny (model prog w) A (isTrue test env (eval test env)) (Tested h₀ L (setM m₀ (Str.ofString "post") (.int (-(k : Int)) t)) news s (postG a b k)) E { s with heap := h, toks := tk })
    (hstep : ∀ (k : Nat) h tk t, Fr h₀ L h (setM m₀ (Str.ofString "post") (.int (-(k : Int)) t)) → News h₀ L h news →
      wpAny (model prog w) A (execs body env) (Stepped h₀ L m₀ (Str.ofString "post") (-((k + 1 : Nat) : Int)) news s) E { s with heap := h, toks := tk })
    (hdone : ∀ (k : Nat) h tk t, stripPre a.cps.toList.reverse b.cps.toList.reverse = (a.cps.toList.reverse.drop k, b.cps.toList.reverse.drop k) → k ≤ a.length → k ≤ b.length → Fr h₀ L h (setM m₀ (Str.ofString "post") (.int (-(k : Int)) t)) → News h₀ L h news → Q .next { s with heap := h, toks := tk })
    (hE : PassesOwn (model prog w) A env E := by passes_own) :
    wpAny (model prog w) A (exec (.While test body [] pos) env) Q E s :=
  while_count (fun k => -(k : Int)) (postG a b) a.cps.toList.reverse.length F N hx (gPre_end _ _) (fun k h tk t hg => htest k h tk t hg (post_ka hg) (post_kb hg)) (fun k h tk t _ => hstep k h tk t)
    (fun k h tk t hg hk => hdone k h tk t (gPre_strip hg hk) (post_ka hg) (post_kb hg)) hE

local macro_rules | `(tactic| walk_at "exec While BoolOp cons nil") => `(tactic| (k_here; (rename Fr _ _ _ _ => lF'); (rename News _ _ _ _ => lN'); (with_unfolding_all refine' while_post lF' lN' ?va ?vb ?vx (fun k' h' tk' t' hg' hka' hkb' F' N' => ?_) (fun k' h' tk' t' F' N' => ?_) (fun k' h' tk' t' hst' hka' hkb' F' N' => ?_) ?vE); (case va => exact rfl); (case vb => exact rfl); (case vx => exact rfl); (case vE => passes_own)))
local macro_rules | `(tactic| walk_at "exec While BoolOp cons nil") => `(tactic| (k_here; (rename Fr _ _ _ _ => lF'); (rename News _ _ _ _ => lN'); (with_unfolding_all refine' while_pre lF' lN' ?ua ?ub ?ux (fun k' h' tk' t' hg' hka' hkb' F' N' => ?_) (fun k' h' tk' t' F' N' => ?_) (fun k' h' tk' t' hst' hka' hkb' F' N' => ?_) ?uE); (case ua => exact rfl); (case ub => exact rfl); (case ux => exact rfl); (case uE => passes_own)))
local macro_rules | `(tactic| walk_at "Tested") => `(tactic| (refine Tested.mk' ?_ (by k_asm) (by k_asm); first | exact pre_no_a (by assumption) (by assumption) | exact pre_no_b (by assumption) (by assumption) | exact pre_both (by assumption) (by assumption) (by assumption) (by assumption) | exact post_no_a0 (by assumption) (by assumption) | exact post_no_b0 (by assumption) (by assumption) | exact post_no_a1 (by assumption) (by assumption) (by assumption) | exact post_no_b1 (by assumption) (by assumption) (by assumption) | exact post_both (by first | exact post_lt0 (by assumption) (by assumption) | exact post_lt1 (by assumption) (by assumption) (by assumption)) (by first | exact post_lt0 (by assumption) (by assumption) | exact post_lt1 (by assumption) (by assumption) (by assumption)) (by assumption) | (exfalso; omega)))
local macro_rules | `(tactic| walk_at "call type:list") => `(tactic| (k_here; (with_reducible show wpAny _ _ (call (Value.type "list") [Value.ref _]) _ _ _); (rename IsRange _ _ _ _ _ _ _ _ => R'); (rename Fr _ _ _ _ => F'); (rename News _ _ _ _ => N'); (with_unfolding_all refine list_row rfl F' N' R' (by omega) ?_); intro l' h' tk' ys' c' F' N' hi' l1))
local macro_rules | `(tactic| walk_at "Swapped") => `(tactic| (refine Swapped.mk' (by k_asm) rfl rfl rfl (by k_asm) (by first | (intro x hx; exact hx) | (intro x hx; exact List.mem_cons_of_mem _ hx)) ?_; first | exact swap_yes (by assumption) | exact swap_no (by assumption)))
local macro_rules | `(tactic| walk_at "call ref") => `(tactic| (k_here; (with_reducible show wpAny _ _ (call (Value.ref 83) [Value.str _ _, Value.str _ _]) _ _ _); k_dflt (refine' sub_use _ _ _ _ ?sB ?sF ?sK ?sN ?sT ?sk ?sx ?sy ?sd ?su ?_; (case sB => k_asm); (case sF => k_asm); (case sK => k_asm); (case sN => k_asm); (case sT => k_asm); (case sk => exact rfl); (case sx => exact item_mk (by assumption) (by omega)); (case sy => exact item_mk (by assumption) (by omega)); (case sd => ktr_room); (case su => ktr_units)); intro t9 h9 tk9 F9 N9; (try dsimp only); (try k_fold)))
local macro_rules | `(tactic| k_all) => `(tactic| (intro p9 h9; exact Nat.ne_of_lt ((by assumption : ∀ p ∈ _, p.1 < _) p9 h9)))
local macro_rules | `(tactic| walk_at "Stored") => `(tactic| (refine Stored.mk' (by k_asm) ?_ (by k_asm); first | exact cut0 (by assumption) | exact cut1 (by assumption) (by assumption)))
local macro_rules | `(tactic| walk_at "subscriptTail Name Slice str ref") => `(tactic| ((with_reducible show wpAny _ _ (subscriptTail _ (PySem.Expr.Slice none (some (PySem.Expr.BoolOp _ _ _)) none _) _ _) _ _ _); (with_reducible rename Fr _ _ _ _ => F'); (with_reducible rename News _ _ _ _ => N'); (refine slice_strN_nn_len (s := ⟨_, _, _, _, _⟩) F' N' ?_); intro _ _ _ _ _ _))
local macro_rules | `(tactic| walk_at "subscriptTail Name BinOp str int") => `(tactic| ((with_reducible show wpAny _ _ (subscriptTail _ _ (Value.str _ _) (Value.int (-_ - 1) _)) _ _ _); refine item_walk (by first | exact post_lt0 (by assumption) (by assumption) | exact post_lt1 (by assumption) (by assumption) (by assumption)) (by omega) ?_))
local macro_rules | `(tactic| walk_at "Stepped") => `(tactic| (refine Stepped.mk' (by k_asm) ?_ (by k_asm); omega))

set_option maxRecDepth 100000 in
set_option maxHeartbeats 60000000 in
theorem lev_use {w : World} {p : Program} {loose : List Str} {mean : ExcName → Option Value} {mg mb : Str → Option Value} {dp un : Nat} {gd : Option (List Code)} {cn : Str} {cs : Scope} {fa : Addr} {ccd : Value} {cl : List (Str × Addr)} {outer : List Env} {A₀ : Around} {base h₀ : Heap} {L : Addr} {m : Str → Option Value} {s : Shared} {Q E : Value → Shared → Prop} {news : List (Addr × Obj)}
    (a b : Str) (mx : Int) (ta tb tm : Tok) (hB : Below A₀ base outer h₀) (hF : Fr h₀ L s.heap m) (hK : (hd.heap_39 w.params).In h₀) (hN : News h₀ L s.heap news) (hT : Top p loose mean mg mb h₀) (hcs : cs.kind = .function)
    (hal : a.length ≤ 40) (hbl : b.length ≤ 40) (hmk : (a == b) = false → (∀ c ∈ (stripF a.cps.toList b.cps.toList).1, Mk c) ∧ ∀ c ∈ (stripF a.cps.toList b.cps.toList).2, Mk c) (hdp : dp + 2 < recursionLimit) (hun : un + 16 < cLine)
    (hret : ∀ (t : Tok) (h' : Heap) (tk' : Nat), Fr h₀ L h' m → News h₀ L h' news → Q (.int (levF a.cps.toList b.cps.toList mx) t) { s with heap := h', toks := tk' }) :
    wpAny (model PySem.Challenge.rw_ta0011_01.row.prog w) (ktrTop dp un gd cn cs L fa ccd cl outer) (call (.ref 90) [.str a ta, .str b tb, .int mx tm]) Q E s := by
  w_top off
  revert hK
  k_fill
  intro hK
  refine wpAny_call ?_
  k_dflt cell_enter
  rename Fr _ _ _ _ => lF'
  replace lF' := Fr.frame3 lF'
  repeat' ((fail_if_success (with_reducible show wpAny _ _ (exec (Stmt.While _ _ _ _) _) _ _ _)); (first | (k_unfold; (try dsimp only)) | walk1 | (dsimp only; walk1)))
  · exact cb_retI hret (lev_same (by assumption)) (by k_asm) (by k_asm)
  walk1
  · repeat' (first | (k_unfold; (try dsimp only)) | walk1 | (dsimp only; walk1))
  · repeat' (first | (k_unfold; (try dsimp only)) | walk1 | (dsimp only; walk1))
  repeat' ((fail_if_success (with_reducible show wpAny _ _ (exec (Stmt.While _ _ _ _) _) _ _ _)); (first | (k_unfold; (try dsimp only)) | walk1 | (dsimp only; walk1)))
  rename (stripPre _ _ = _) => hstrip
  rename Nat => kk
  generalize hA1 : Txt.slice a (some _) none = a1 at *
  generalize hB1 : Txt.slice b (some _) none = b1 at *
  replace hstrip : stripPre a.cps.toList b.cps.toList = (a1.cps.toList, b1.cps.toList) := by
    rw [hstrip, ← hA1, ← hB1, slice_from a _ (by assumption), slice_from b _ (by assumption)]
  clear hA1 hB1
  walk1
  · repeat' (first | (k_unfold; (try dsimp only)) | walk1 | (dsimp only; walk1))
  · repeat' (first | (k_unfold; (try dsimp only)) | walk1 | (dsimp only; walk1))
  rename (stripPre (List.reverse _) _ = _) => hstrip2
  have hstripF := strip_cut hstrip hstrip2
  clear hstrip hstrip2
  repeat' ((fail_if_success (with_reducible show wpAny _ _ (exec (Stmt.Assign _ _ _) _) _ _ _)); (first | (k_unfold; (try dsimp only)) | walk1 | (dsimp only; walk1)))
  rename Fr _ _ _ _ => F1
  rename News _ _ _ _ => N1
  rename_i kp _ _ _ hkpa hkpb
  refine store_cut (Str.ofString "a") (cutS a1 kp) F1 N1 ?_ (fun h' tk' t' F' N' => ?_)
  · clear qk
    repeat' (first | (k_unfold; (try dsimp only)) | walk1 | (dsimp only; walk1))
  dsimp only
  repeat' ((fail_if_success (with_reducible show wpAny _ _ (exec (Stmt.Assign _ _ _) _) _ _ _)); (first | (k_unfold; (try dsimp only)) | walk1 | (dsimp only; walk1)))
  rename Fr _ _ _ _ => F2
  rename News _ _ _ _ => N2
  refine store_cut (Str.ofString "b") (cutS b1 kp) F2 N2 ?_ (fun h' tk' t' F' N' => ?_)
  · clear qk
    repeat' (first | (k_unfold; (try dsimp only)) | walk1 | (dsimp only; walk1))
  dsimp only
  have hl2 := cut_len a1 kp
  have hl3 := cut_len b1 kp
  generalize cutS a1 kp = a2 at *
  generalize cutS b1 kp = b2 at *
  obtain ⟨m3, F3⟩ := Fr.forget3 (x := Str.ofString "max_cost") (y := Str.ofString "a") (z := Str.ofString "b") F' rfl rfl rfl
  clear F' F2 N2 F1 N1
  rename ((a == b) = false) => hne
  have hmm := hmk hne
  rw [hstripF] at hmm
  have hlev := lev_other (mx := mx) hne hstripF
  clear hmk hstripF
  repeat' ((fail_if_success (with_reducible show wpAny _ _ (exec (Stmt.If (PySem.Expr.Compare _ _ _ _) _ _ _) _) _ _ _)); (first | (k_unfold; (try dsimp only)) | walk1 | (dsimp only; walk1)))
  · have hcore := core_of (mx := mx) (by assumption) (by assumption) (by omega) (by omega) hmm.1 hmm.2
    rename Fr _ _ _ _ => F4
    rename News _ _ _ _ => N4
    refine swap_cut (if b2.length < a2.length then b2 else a2) (if b2.length < a2.length then a2 else b2) F4 rfl N4 ?_ (fun h' tk' m' ta tb F' N' => ?_)
    · clear qk
      repeat' (first | (k_unfold; (try dsimp only)) | walk1 | (dsimp only; walk1))
    dsimp only
    generalize (if b2.length < a2.length then b2 else a2) = p at *
    generalize (if b2.length < a2.length then a2 else b2) = q at *
    obtain ⟨hpl, hql, hpm, hqm, his⟩ := hcore
    rw [← hlev] at his
    clear F4 N4 hlev hmm
    repeat' ((fail_if_success (with_reducible show wpAny _ _ (pyIter _) _ _ _)); (first | (k_unfold; (try dsimp only)) | walk1 | (dsimp only; walk1)))
    · refine cb_retI hret ?_ (by k_asm) (by k_asm)
      rw [his, if_pos (by omega)]
    · rw [if_neg (by omega)] at his
      rw [his] at hret
      k_with "state" => first | exact OuterP.start _ _ _ | exact OuterP.step (by assumption) (by rw [len_list]; omega) (by assumption) (by rw [rangeKs_length, len_list]; omega) (by assumption)
      k_state (fun (pre : List Int) (row : List Int) (r : Int) => OuterP p.cps.toList q.cps.toList mx pre.length row r) "row" "result"
      · rename_i vs1 ns1 cn1 r1 tr1 kL1
        subst kEq
        rename List Int => preO
        repeat' ((fail_if_success (with_reducible show wpAny _ _ (pyIter _) _ _ _)); (first | (k_unfold; (try dsimp only)) | walk1 | (dsimp only; walk1)))
        k_with "state" => first | exact InnerP.start (OuterP.len (by assumption)) | exact InnerP.step kInv (by rw [len_list]; exact hlt2) (subF_item hlt1 hlt2) rfl (if_pos (by assumption)) | exact InnerP.step kInv (by rw [len_list]; exact hlt2) (subF_item hlt1 hlt2) rfl (if_neg (by assumption))
        k_state (fun (pre : List Int) (row : List Int) (d r mn : Int) => InnerP p.cps.toList (q.cps.toList.getD preO.length 0) (0 + (preO.length : Int)) ns1 pre.length d r mn row) "row" "distance" "result" "minimum"
        · rename_i vs2 ns2 cn2 d2 td2 r2 tr2 mn2 tm2 kL2 kL3
          subst kEq
          rename List Int => preI
          have hlen2 : ns2.length = p.length := (InnerP.len kInv).trans (len_list p)
          have hlt2 : preI.length < p.length := by omega
          have hlt1 : preO.length < q.length := by omega
          repeat' (first | (k_unfold; (try dsimp only)) | walk1 | (dsimp only; walk1))
        · dsimp only
          have hlt1 : preO.length < q.length := by omega
          repeat' (first | (k_unfold; (try dsimp only)) | walk1 | (dsimp only; walk1))
          exact cb_retI hret (OuterP.stop (by assumption) (by rw [len_list]; omega) kInv (by rw [rangeKs_length, len_list]; omega) (by assumption)) (by k_asm) (cb_drop (by assumption) fun x hx => List.mem_cons_of_mem _ (List.mem_append_left _ hx))
      · dsimp only
        repeat' (first | (k_unfold; (try dsimp only)) | walk1 | (dsimp only; walk1))
        exact cb_retI hret (OuterP.done kInv (by rw [rangeKs_length, len_list]; omega)) (by k_asm) (cb_drop (by assumption) fun x hx => List.mem_cons_of_mem _ hx)
  · exact cb_retI hret (by rw [hlev]; exact core_nil (.inr (by assumption))) (by k_asm) (by k_asm)
  · exact cb_retI hret (by rw [hlev]; exact core_nil (.inl (by assumption))) (by k_asm) (by k_asm)
end Mine
namespace Mine
abbrev tupO (A B : List Nat) (n i j : Nat) (t1 t2 t3 : Tok) : Obj := { cls := .type "tuple", data := .seq #[.int (bF i) t1, .int (qF j) t2, .str (nm A B n i j) t3] }
def Tup (A B : List Nat) (n : Nat) (p : Addr × Obj) : Prop := ∃ i j t1 t2 t3, i < 3 ∧ j < 3 ∧ p.2 = tupO A B n i j t1 t2 t3
abbrev refsL (tups : List (Addr × Obj)) : List Value := tups.map fun p => Value.ref p.1
abbrev frameL (mm : Str → Option Value) (lc lw : Addr) (x : Str) (tn : Tok) : Str → Option Value := setM (setM (setM mm (Str.ofString "cells") (.ref lc)) (Str.ofString "name") (.str x tn)) (Str.ofString "writings") (.ref lw)

structure TurnPost (h₀ : Heap) (L : Addr) (A B : List Nat) (n : Nat) (I : Addr) (it : Obj) (lw lc : Addr) (lo : Obj) (tups : List (Addr × Obj)) (s : Shared) (f : Flow) (s₂ : Shared) : Prop where
  on : f = .next
  back : ∃ h' tk' m' all tu tn i j t1 t2 t3 cw, s₂ = { s with heap := h', toks := tk' } ∧ i < 3 ∧ j < 3 ∧ Fr h₀ L h' m' ∧ m' (Str.ofString "cells") = some (.ref lc) ∧ m' (Str.ofString "name") = some (.str (nm A B n 0 0) tn) ∧ m' (Str.ofString "writings") = some (.ref lw) ∧
    News h₀ L h' all ∧ (I, it) ∈ all ∧ (tu, tupO A B n i j t1 t2 t3) ∈ all ∧ (lw, listOf ((refsL tups).toArray.push (.ref tu)) cw) ∈ all ∧ ∀ p ∈ (lc, lo) :: tups, p ∈ all

section
variable {prog : Program} {w : World} {A₁ : Around} {E : Value → Shared → Prop} {s : Shared} {env : Env} {h₀ : Heap} {x : Str} {body : List Stmt} {Q : Flow → Shared → Prop} {A B : List Nat} {n : Nat} {I lw lc : Addr} {lo : Obj}
theorem cells_rest (hne : lc ≠ lw) (hIl : lw < I) (hIc : lc < I)
    (turn : ∀ c tc it h tk mm tn tups cw, it.cls = .type "list_iterator" → (∀ p ∈ tups, Tup A B n p) → tups.length ≤ 2 → (∀ p ∈ (lc, lo) :: tups, p.1 ≠ lw) → (∀ p ∈ tups, p.1 ≠ I) →
      Fr h₀ env.locals h (fun y => if y = x then some (.int c tc) else frameL mm lc lw (nm A B n 0 0) tn y) → News h₀ env.locals h ((I, it) :: (lw, listOf (refsL tups).toArray cw) :: (lc, lo) :: tups) →
      wpAny (model prog w) A₁ (execs body env) (TurnPost h₀ env.locals A B n I it lw lc lo tups { s with heap := h, toks := tk }) E { s with heap := h, toks := tk })
    (done : ∀ h tk mm tn tups cw, (∀ p ∈ tups, Tup A B n p) → tups.length = 3 → (∀ p ∈ (lc, lo) :: tups, p.1 ≠ lw) → Fr h₀ env.locals h (frameL mm lc lw (nm A B n 0 0) tn) → News h₀ env.locals h ((lw, listOf (refsL tups).toArray cw) :: (lc, lo) :: tups) → Q .next { s with heap := h, toks := tk }) :
    ∀ (r : List Value) (m : Str → Option Value) (news : List (Addr × Obj)) (tups : List (Addr × Obj)), (∀ v ∈ r, ∃ c tc, v = .int c tc) → r.length + tups.length = 3 → (∀ p ∈ tups, Tup A B n p) → (∀ p ∈ (lc, lo) :: tups, p.1 ≠ lw) → (∀ p ∈ tups, p.1 ≠ I) →
      (∃ mm tn cw, m = frameL mm lc lw (nm A B n 0 0) tn ∧ news = (lw, listOf (refsL tups).toArray cw) :: (lc, lo) :: tups) →
      ListRest prog w A₁ E h₀ env x body Q s I (lc, lo) r m news
  | [], _, _, tups, _, hl, ht, ho, _, ⟨mm, tn, cw, rfl, rfl⟩ => fun h tk F N => done h tk mm tn tups cw ht (by simpa using hl) ho F N
  | v :: r, _, _, tups, hv, hl, ht, ho, hoI, ⟨mm, tn, cw, rfl, rfl⟩ => by
    obtain ⟨c, tc, rfl⟩ := hv v (List.mem_cons_self ..)
    intro it h tk hit F N
    refine wpAny_mono (turn c tc it h tk mm tn tups cw hit ht (by simp only [List.length_cons] at hl; omega) ho hoI F N) (fun f s₂ hf => ?_) fun _ _ e => e
    obtain ⟨rfl, h', tk', m', all, tu, tn', i, j, t1, t2, t3, cw', rfl, hi, hj, F', hc, hn, hw, N', hI, htu, hlw, hre⟩ := hf
    obtain ⟨m₂, F₂⟩ := Fr.forget3 F' hc hn hw
    have tuI : tu ≠ I := fun e => by
      have h1 := (N' _ htu).1
      have h2 := (N' _ hI).1
      rw [show (tu, tupO A B n i j t1 t2 t3).1 = I from e] at h1
      have h3 := congrArg Obj.cls (Option.some.inj (h1.symm.trans h2))
      rw [hit] at h3
      exact absurd (Value.type.inj h3) (by decide)
    have tuw : tu ≠ lw := fun e => by
      have h1 := (N' _ htu).1
      have h2 := (N' _ hlw).1
      rw [show (tu, tupO A B n i j t1 t2 t3).1 = lw from e] at h1
      have h3 := congrArg Obj.cls (Option.some.inj (h1.symm.trans h2))
      exact absurd (Value.type.inj h3) (by decide)
    have eq1 : (refsL tups).toArray.push (Value.ref tu) = (refsL (tups ++ [(tu, tupO A B n i j t1 t2 t3)])).toArray := by simp [refsL]
    refine ⟨h', tk', frameL m₂ lc lw (nm A B n 0 0) tn', (lw, listOf (refsL (tups ++ [(tu, tupO A B n i j t1 t2 t3)])).toArray cw') :: (lc, lo) :: (tups ++ [(tu, tupO A B n i j t1 t2 t3)]), rfl, F₂, fun p hp => ?_, fun p hp => ?_, List.mem_cons_of_mem _ (List.mem_cons_self ..), ?_⟩
    · rcases List.mem_cons.mp hp with rfl | hp
      · exact N' _ hI
      rcases List.mem_cons.mp hp with rfl | hp
      · rw [← eq1]; exact N' _ hlw
      rcases List.mem_cons.mp hp with rfl | hp
      · exact N' _ (hre _ (List.mem_cons_self ..))
      rcases List.mem_append.mp hp with hp | hp
      · exact N' _ (hre _ (List.mem_cons_of_mem _ hp))
      · rw [List.mem_singleton.mp hp]; exact N' _ htu
    · rcases List.mem_cons.mp hp with rfl | hp
      · exact Nat.ne_of_lt hIl
      rcases List.mem_cons.mp hp with rfl | hp
      · exact Nat.ne_of_lt hIc
      rcases List.mem_append.mp hp with hp | hp
      · exact hoI p hp
      · rw [List.mem_singleton.mp hp]; exact tuI
    · refine cells_rest hne hIl hIc turn done r _ _ _ (fun v hv' => hv v (List.mem_cons_of_mem _ hv')) ?_ (fun p hp => ?_) (fun p hp => ?_) (fun p hp => ?_) ⟨m₂, tn', cw', rfl, rfl⟩
      · simp only [List.length_cons, List.length_append, List.length_nil] at hl ⊢
        omega
      · rcases List.mem_append.mp hp with hp | hp
        · exact ht p hp
        · rw [List.mem_singleton.mp hp]; exact ⟨i, j, t1, t2, t3, hi, hj, rfl⟩
      · rcases List.mem_cons.mp hp with rfl | hp
        · exact hne
        rcases List.mem_append.mp hp with hp | hp
        · exact ho p (List.mem_cons_of_mem _ hp)
        · rw [List.mem_singleton.mp hp]; exact tuw
      · rcases List.mem_append.mp hp with hp | hp
        · exact hoI p hp
        · rw [List.mem_singleton.mp hp]; exact tuI
end
end Mine
namespace Mine
theorem TurnPost.mk' {h₀ : Heap} {L : Addr} {A B : List Nat} {n : Nat} {I : Addr} {it : Obj} {lw lc : Addr} {lo : Obj} {tups : List (Addr × Obj)} {s : Shared} {h' : Heap} {tk' : Nat} {m' : Str → Option Value} {all : List (Addr × Obj)} {tu : Addr} {tn : Tok} {i j : Nat} {t1 t2 t3 : Tok} {cw : Nat}
    (F : Fr h₀ L h' m') (hc : m' (Str.ofString "cells") = some (.ref lc)) (hn : m' (Str.ofString "name") = some (.str (nm A B n 0 0) tn)) (hw : m' (Str.ofString "writings") = some (.ref lw)) (N : News h₀ L h' all) (hi : i < 3) (hj : j < 3)
    (hI : (I, it) ∈ all) (htu : (tu, tupO A B n i j t1 t2 t3) ∈ all) (hlw : (lw, listOf ((refsL tups).toArray.push (.ref tu)) cw) ∈ all) (hre : ∀ p ∈ (lc, lo) :: tups, p ∈ all) : TurnPost h₀ L A B n I it lw lc lo tups s .next { s with heap := h', toks := tk' } :=
  ⟨rfl, h', tk', m', all, tu, tn, i, j, t1, t2, t3, cw, rfl, hi, hj, F, hc, hn, hw, N, hI, htu, hlw, hre⟩
theorem tups3 {A B : List Nat} {n : Nat} {tups : List (Addr × Obj)} (h : ∀ p ∈ tups, Tup A B n p) (hl : tups.length = 3) :
    ∃ a0 a1 a2 i0 j0 i1 j1 i2 j2 u0 v0 w0 u1 v1 w1 u2 v2 w2, tups = [(a0, tupO A B n i0 j0 u0 v0 w0), (a1, tupO A B n i1 j1 u1 v1 w1), (a2, tupO A B n i2 j2 u2 v2 w2)] ∧ i0 < 3 ∧ j0 < 3 ∧ i1 < 3 ∧ j1 < 3 ∧ i2 < 3 ∧ j2 < 3 := by
  obtain ⟨p0, p1, p2, rfl⟩ : ∃ p0 p1 p2, tups = [p0, p1, p2] := by
    cases tups with
    | nil => cases hl
    | cons p0 r =>
      cases r with
      | nil => cases hl
      | cons p1 r =>
        cases r with
        | nil => cases hl
        | cons p2 r =>
          cases r with
          | nil => exact ⟨p0, p1, p2, rfl⟩
          | cons p3 r => simp at hl
  obtain ⟨a0, o0⟩ := p0
  obtain ⟨a1, o1⟩ := p1
  obtain ⟨a2, o2⟩ := p2
  obtain ⟨i0, j0, u0, v0, w0, hi0, hj0, e0⟩ := h (a0, o0) (List.mem_cons_self ..)
  obtain ⟨i1, j1, u1, v1, w1, hi1, hj1, e1⟩ := h (a1, o1) (List.mem_cons_of_mem _ (List.mem_cons_self ..))
  obtain ⟨i2, j2, u2, v2, w2, hi2, hj2, e2⟩ := h (a2, o2) (List.mem_cons_of_mem _ (List.mem_cons_of_mem _ (List.mem_cons_self ..)))
  refine ⟨a0, a1, a2, i0, j0, i1, j1, i2, j2, u0, v0, w0, u1, v1, w1, u2, v2, w2, ?_, hi0, hj0, hi1, hj1, hi2, hj2⟩
  rw [← show o0 = _ from e0, ← show o1 = _ from e1, ← show o2 = _ from e2]
end Mine
namespace Mine
def wrapF (y : Str) : Str := ⟨([112, 61, 34] ++ y.cps.toList ++ [34]).toArray⟩
theorem wrap_len (y : Str) : (wrapF y).length = y.length + 4 := by
  show (([112, 61, 34] ++ y.cps.toList ++ [34]).toArray).size = _
  simp only [List.size_toArray, List.length_append, len_list, List.length_cons, List.length_nil]
  omega
theorem wrap3 (y : Str) : Txt.slice (wrapF y) none (some 3) = Str.ofString "p=\"" := by
  have := slice_to (wrapF y) 3 (by rw [wrap_len]; omega)
  exact this.trans (by show (⟨#[112, 61, 34]⟩ : Str) = _; decide +kernel)
theorem wrapL (y : Str) : Txt.slice (wrapF y) (some (-1)) none = Str.ofString "\"" := by
  have h := StrLaws.sliceText_from_neg (x := wrapF y) (i := -1) (by decide) (by rw [wrap_len]; omega)
  have hl := wrap_len y
  have e : (wrapF y).cps.toList = ([112, 61, 34] ++ y.cps.toList) ++ [34] := rfl
  refine (show Txt.slice (wrapF y) (some (-1)) none = _ from h).trans ?_
  rw [quo]
  apply congrArg (fun l : List Nat => (⟨l.toArray⟩ : Str))
  rw [e]
  have hk : ((-1 : Int) + ((wrapF y).length : Int)).toNat = ([112, 61, 34] ++ y.cps.toList).length := by
    rw [hl]
    simp only [List.length_append, List.length_cons, List.length_nil, len_list]
    omega
  simp only [hk, List.drop_left]
  apply List.take_of_length_le
  simp only [List.length_append, List.length_cons, List.length_nil, hl, len_list]
  omega
theorem wrapM (y : Str) : Txt.slice (wrapF y) (some 3) (some (-1)) = y := by
  have hl := wrap_len y
  show StrLaws.sliceText (wrapF y) (some 3) (some (-1)) = y
  rw [StrLaws.sliceText_neg_hi _ _ (by decide) (by rw [hl]; omega)]
  have e : (-1 : Int) + ((wrapF y).length : Int) = ((y.length + 3 : Nat) : Int) := by rw [hl]; omega
  rw [e]
  have := slice_mid (wrapF y) 3 (y.length + 3) (by omega) (by rw [hl]; omega)
  refine (show StrLaws.sliceText (wrapF y) (some 3) (some ((y.length + 3 : Nat) : Int)) = _ from this).trans ?_
  refine (mk_list ?_).symm
  show y.cps.toList = (([112, 61, 34] ++ y.cps.toList ++ [34]).drop 3).take (y.length + 3 - 3)
  rw [List.append_assoc]
  show y.cps.toList = (y.cps.toList ++ [34]).take (y.length + 3 - 3)
  rw [show y.length + 3 - 3 = y.cps.toList.length by rw [len_list]; omega, List.take_left]
theorem runs_repl2 {z z' : List Nat} {i j i' j' : Nat} (h : repl 34 z' (repl 92 z (run i j)) = run i' j') : ∀ n, repl 34 z' (repl 92 z (runs i j n)) = runs i' j' n
  | 0 => rfl
  | n + 1 => by
    show repl 34 z' (repl 92 z (run i j ++ runs i j n)) = run i' j' ++ runs i' j' n
    rw [repl_append, repl_append, h, runs_repl2 h n]
theorem fmtF_nm {A B : List Nat} {n i : Nat} (H : Nam A B n) (hi : i < 2) : fmtF (nm A B n i 0) = wrapF (nm A B n (i + 1) 0) := by
  have hr : repl 34 [92, 34] (repl 92 [92, 92] (run i 0)) = run (i + 1) 0 := (by decide : ∀ i, i < 2 → repl 34 [92, 34] (repl 92 [92, 92] (run i 0)) = run (i + 1) 0) i hi
  refine mk_list ?_
  unfold fmtF
  rw [bsl, bsl2, quo, bquo]
  simp only [Str.cps_append, Array.toList_append]
  rw [replace_repl, replace_repl, nm_list, nm_list]
  have e : repl 34 [92, 34] (repl 92 [92, 92] (nmL A B n i 0)) = nmL A B n (i + 1) 0 := by
    unfold nmL
    simp only [repl_append]
    rw [repl_free H.a92, repl_free H.b92, repl_free H.a34, repl_free H.b34, runs_repl2 hr]
  show Str.empty.cps.toList ++ (Str.ofString "p").cps.toList ++ (Str.ofString "=\"").cps.toList ++ repl 34 [92, 34] (repl 92 [92, 92] (nmL A B n i 0)) ++ [34] = _
  rw [e, show (Str.ofString "p").cps.toList = [112] by decide +kernel, show (Str.ofString "=\"").cps.toList = [61, 34] by decide +kernel]
  rfl
theorem dbl_nm {A B : List Nat} {n i j : Nat} (H : Nam A B n) (hi : i < 3) (hj : j < 2) : repl 34 [34, 34] (nmL A B n i j) = nmL A B n i (j + 1) :=
  H.repl34 ((by decide : ∀ i, i < 3 → ∀ j, j < 2 → repl 34 [34, 34] (run i j) = run i (j + 1)) i hi j hj)
theorem dquo : Str.ofString "\"\"" = ⟨#[34, 34]⟩ := by decide +kernel
theorem dblS_nm {A B : List Nat} {n i j : Nat} (H : Nam A B n) (hi : i < 3) (hj : j < 2) : Txt.replace (nm A B n i j) (Str.ofString "\"") (Str.ofString "\"\"") = nm A B n i (j + 1) := by
  rw [quo, dquo]
  exact H.replace34 (z := [34, 34]) ((by decide : ∀ i, i < 3 → ∀ j, j < 2 → repl 34 [34, 34] (run i j) = run i (j + 1)) i hi j hj)
/-- what is asked of parse257 -/
abbrev askF (y : Str) : Str := Str.ofString "257 \"" ++ y ++ Str.ofString "\" \"x\""
theorem ask_list (y : Str) : (askF y).cps.toList = [50, 53, 55, 32, 34] ++ (y.cps.toList ++ 34 :: 32 :: [34, 120, 34]) := by
  simp only [Str.cps_append, Array.toList_append]
  rw [show (Str.ofString "257 \"").cps.toList = [50, 53, 55, 32, 34] by decide +kernel, show (Str.ofString "\" \"x\"").cps.toList = 34 :: 32 :: [34, 120, 34] by decide +kernel, List.append_assoc]
theorem ask_told {A B : List Nat} {n i j : Nat} (H : Nam A B n) (hi : i < 3) (hj : j < 2) : (⟨(parseL ((askF (nm A B n i (j + 1))).cps.toList.drop 5)).toArray⟩ : Str) = nm A B n i j := by
  rw [ask_list]
  show (⟨(parseL ((nm A B n i (j + 1)).cps.toList ++ 34 :: 32 :: [34, 120, 34])).toArray⟩ : Str) = _
  rw [nm_list, ← dbl_nm H hi hj, parse_dbl]
  rfl
theorem once_nm {A B : List Nat} {n i : Nat} (H : Nam A B n) (hi : i < 3) : Txt.replace (nm A B n 0 0) ⟨#[34]⟩ ⟨(List.replicate (2 ^ i - 1) 92 ++ [34]).toArray⟩ = nm A B n i 0 :=
  H.replace34 ((by decide : ∀ i, i < 3 → repl 34 (List.replicate (2 ^ i - 1) 92 ++ [34]) (run 0 0) = run i 0) i hi)
theorem nm_ne {A B X Y : List Nat} {a b : Str} (ha : a.cps.toList = A ++ X ++ B) (hb : b.cps.toList = A ++ Y ++ B) (h : (a == b) = false) : X ≠ Y := fun e => by
  have : a = b := (mk_list (ha.trans (by rw [e]))).trans (mk_list hb).symm
  rw [this] at h
  simp at h
theorem lev_mk {A B : List Nat} {n i j i' j' : Nat} (H : Nam A B n) (h : (nm A B n i j == nm A B n i' j') = false) :
    (∀ c ∈ (stripF (nm A B n i j).cps.toList (nm A B n i' j').cps.toList).1, Mk c) ∧ ∀ c ∈ (stripF (nm A B n i j).cps.toList (nm A B n i' j').cps.toList).2, Mk c := by
  have hne : runs i j n ≠ runs i' j' n := nm_ne rfl rfl h
  rw [nm_list, nm_list]
  unfold nmL
  rw [stripF_in H.right (runs_mem i j n) (runs_mem i' j' n) hne]
  exact stripF_mem (runs_mem i j n) (runs_mem i' j' n)
theorem lev_due {A B : List Nat} {n i j i' j' : Nat} (H : Nam A B n) (hi : i < 3) (hj : j < 3) (hi' : i' < 3) (hj' : j' < 3) (e : Nat) (he : e < 2) :
    levF (nm A B n i j).cps.toList (nm A B n i' j').cps.toList (dueF n (bF i - bF i') (qF j - qF j') - (e : Int)) = dueF n (bF i - bF i') (qF j - qF j') := by
  rw [nm_list, nm_list]
  unfold nmL
  rw [levF_in H.right (runs_mem i j n) (runs_mem i' j' n)]
  obtain ⟨k, rfl⟩ : ∃ k, n = k + 1 := ⟨n - 1, by have := H.pos; omega⟩
  exact all_due k (by have := H.most; omega) i hi j hj i' hi' j' hj' e he
end Mine
namespace Mine
section
variable {w : World} {p : Program} {loose : List Str} {mean : ExcName → Option Value} {mg mb : Str → Option Value} {dp un : Nat} {gd : Option (List Code)} {cn : Str} {cs : Scope} {fa : Addr} {ccd : Value} {cl : List (Str × Addr)} {outer : List Env} {A₀ : Around} {base h₀ : Heap} {L : Addr} {m : Str → Option Value} {s : Shared} {Q E : Value → Shared → Prop} {news : List (Addr × Obj)} {A B : List Nat} {n i j i' j' : Nat}
theorem fmt_nm (tp tx : Tok) (hB : Below A₀ base outer h₀) (hF : Fr h₀ L s.heap m) (hK : (hd.heap_39 w.params).In h₀) (hN : News h₀ L s.heap news) (hT : Top p loose mean mg mb h₀) (hcs : cs.kind = .function) (H : Nam A B n) (hi : i < 2) (hdp : dp + 1 < recursionLimit) (hun : un + 8 < cLine)
    (hret : ∀ (t : Tok) (h' : Heap) (tk' : Nat), Fr h₀ L h' m → News h₀ L h' news → Q (.str (wrapF (nm A B n (i + 1) 0)) t) { s with heap := h', toks := tk' }) :
    wpAny (model PySem.Challenge.rw_ta0011_01.row.prog w) (ktrTop dp un gd cn cs L fa ccd cl outer) (call (.ref 44) [.str (Str.ofString "p") tp, .str (nm A B n i 0) tx]) Q E s := by
  have := H.len_le (i := i) (j := 0) (by omega) (by omega)
  exact fmt_use _ tp tx hB hF hK hN hT hcs (H.pos_len i 0) (by omega) hdp hun (by rw [fmtF_nm H hi]; exact hret)
theorem parse_nm (tx : Tok) (hB : Below A₀ base outer h₀) (hF : Fr h₀ L s.heap m) (hK : (hd.heap_39 w.params).In h₀) (hN : News h₀ L s.heap news) (hT : Top p loose mean mg mb h₀) (hcs : cs.kind = .function) (H : Nam A B n) (hi : i < 3) (hj : j < 2) (hdp : dp + 1 < recursionLimit) (hun : un + 8 < cLine)
    (hret : ∀ (t : Tok) (h' : Heap) (tk' : Nat), Fr h₀ L h' m → News h₀ L h' news → Q (.str (nm A B n i j) t) { s with heap := h', toks := tk' }) :
    wpAny (model PySem.Challenge.rw_ta0011_01.row.prog w) (ktrTop dp un gd cn cs L fa ccd cl outer) (call (.ref 76) [.str (askF (nm A B n i (j + 1))) tx]) Q E s := by
  have hl := H.len_le (i := i) (j := j + 1) hi (by omega)
  refine parse_use _ tx _ hB hF hK hN hT hcs (ask_list _) ?_ hdp hun (by rw [ask_told H hi hj]; exact hret)
  rw [← len_list, ask_list]
  simp only [List.length_append, List.length_cons, List.length_nil, len_list]
  omega
theorem lev_nm (ta tb tm : Tok) (e : Nat) (d : Int) (hB : Below A₀ base outer h₀) (hF : Fr h₀ L s.heap m) (hK : (hd.heap_39 w.params).In h₀) (hN : News h₀ L s.heap news) (hT : Top p loose mean mg mb h₀) (hcs : cs.kind = .function) (H : Nam A B n) (hi : i < 3) (hj : j < 3) (hi' : i' < 3) (hj' : j' < 3) (he : e < 2)
    (hd : d = dueF n (bF i - bF i') (qF j - qF j') - (e : Int)) (hdp : dp + 2 < recursionLimit) (hun : un + 16 < cLine)
    (hret : ∀ (t : Tok) (h' : Heap) (tk' : Nat), Fr h₀ L h' m → News h₀ L h' news → Q (.int (dueF n (bF i - bF i') (qF j - qF j')) t) { s with heap := h', toks := tk' }) :
    wpAny (model PySem.Challenge.rw_ta0011_01.row.prog w) (ktrTop dp un gd cn cs L fa ccd cl outer) (call (.ref 90) [.str (nm A B n i j) ta, .str (nm A B n i' j') tb, .int d tm]) Q E s := by
  subst hd
  have h1 := H.len_le hi hj
  have h2 := H.len_le hi' hj'
  exact lev_use _ _ _ ta tb tm hB hF hK hN hT hcs (by omega) (by omega) (lev_mk H) hdp hun (by rw [lev_due H hi hj hi' hj' e he]; exact hret)
end
end Mine
namespace Mine
theorem strKeys_of {es : Array DictEntry} (h : (es.toList.all fun e => match e.key with | .str _ _ => true | _ => false) = true) : StrKeys es := fun e he => by
  have := List.all_eq_true.mp h e (Array.mem_toList_iff.mpr he)
  revert this
  cases e.key with
  | str x t => exact fun _ => ⟨x, t, rfl⟩
  | _ => intro h; cases h
set_option maxRecDepth 100000 in
theorem none_booked_of {P : Params} {h : Heap} (X : (hd.heap_39 P).In h) : NoneBooked h := by
  have e := X 2 _ (by with_unfolding_all rfl)
  exact ⟨_, ⟨_, _, _, e, rfl, strKeys_of rfl, fun _ => rfl⟩, by kernel_rfl⟩
section
variable {prog : Program} {w : World} {A : Around} {E : Value → Shared → Prop} {s : Shared} {x y z : Str} {t u v : Tok} {Q : Value → Shared → Prop}
theorem mul_low {n : Int} (hok : MulOk x n) (h : ∀ (t' k : Nat), s.toks ≤ k → Q (.str (Txt.mul x n) t') { s with toks := k }) : wpAny (model prog w) A (binaryOp .Mult (.str x t) (.int n u)) Q E s := by
  refine P.mul_str hok.1 hok.2.1 hok.2.2 ?_
  unfold Txt.mul at h
  by_cases h1 : n < 1
  · simp only [if_pos h1] at h ⊢
    exact ⟨by decide, h s.toks (s.toks + 1) (Nat.le_succ _)⟩
  · simp only [if_neg h1] at h ⊢
    by_cases h2 : (n == 1 || x.length == 0) = true
    · simp only [if_pos h2] at h ⊢
      exact h t s.toks (Nat.le_refl _)
    · simp only [if_neg h2] at h ⊢
      exact ⟨fits_reps (hok.2.2 h1 (by simpa using h2)), h s.toks (s.toks + 1) (Nat.le_succ _)⟩
theorem add_low (hy : y.length ≠ 0) (hsz : x.length + y.length ≤ 1000) (h : ∀ (t' k : Nat), (t' = u ∨ t' = s.toks) → s.toks ≤ k → Q (.str (x ++ y) t') { s with toks := k }) : wpAny (model prog w) A (binaryOp .Add (.str x t) (.str y u)) Q E s := by
  refine P.add_str ?_
  by_cases h1 : x.length = 0
  · have e : x ++ y = y := by
      have hx : x.cps.toList = [] := List.eq_nil_of_length_eq_zero (by rw [len_list]; exact h1)
      refine (mk_list (x := x ++ y) (l := y.cps.toList) ?_).trans (mk_list rfl).symm
      rw [Str.cps_append, Array.toList_append, hx, List.nil_append]
    rw [if_pos (by simpa using h1)]
    rw [e] at h
    exact h u s.toks (.inl rfl) (Nat.le_refl _)
  · rw [if_neg (by simpa using h1), if_neg (by simpa using hy)]
    refine ⟨by rw [Str.length_append, sizeLine_eq]; omega, h s.toks (s.toks + 1) (.inr rfl) (Nat.le_succ _)⟩
end
theorem bF_le {i : Nat} (h : i < 3) : 0 ≤ (2 : Int) ^ i - 1 ∧ (2 : Int) ^ i - 1 ≤ 3 := (by decide : ∀ i, i < 3 → 0 ≤ (2 : Int) ^ i - 1 ∧ (2 : Int) ^ i - 1 ≤ 3) i h
theorem mul_is {i : Nat} (h : i < 3) : Txt.mul (Str.ofString "\\") ((2 : Int) ^ i - 1) = ⟨(List.replicate (2 ^ i - 1) 92).toArray⟩ := (by decide +kernel : ∀ i, i < 3 → Txt.mul (Str.ofString "\\") ((2 : Int) ^ i - 1) = ⟨(List.replicate (2 ^ i - 1) 92).toArray⟩) i h
theorem mul_len {i : Nat} (h : i < 3) : (Txt.mul (Str.ofString "\\") ((2 : Int) ^ i - 1)).length ≤ 3 := (by decide +kernel : ∀ i, i < 3 → (Txt.mul (Str.ofString "\\") ((2 : Int) ^ i - 1)).length ≤ 3) i h
theorem once_ok {A B : List Nat} {n i i' : Nat} (H : Nam A B n) (hi : i < 3) (hii : i' = i) : nm A B n i' 0 = Txt.replace (nm A B n 0 0) (Str.ofString "\"") (Txt.mul (Str.ofString "\\") ((2 : Int) ^ i - 1) ++ Str.ofString "\"") := by
  subst hii
  rw [quo, ← once_nm H hi, mul_is hi]
  congr 1
  exact (mk_list (by rw [Str.cps_append, Array.toList_append])).symm
end Mine
namespace Mine
theorem mul_ok {n : Int} (h : 0 ≤ n ∧ n ≤ 3) : MulOk (Str.ofString "\\") n := mulOk_of 1 3 (by decide +kernel) (by omega) (by omega) (by decide) (by decide)
theorem quo_len : (Str.ofString "\"").length = 1 := by decide +kernel
theorem replace_any {prog : Program} {w : World} {A : Around} {E : Value → Shared → Prop} {s : Shared} {x y z : Str} {t u v : Tok} {Q : Value → Shared → Prop} (hu : u ≠ 0) (hv : v ≠ 0) (huv : u ≠ v) (hx : x.length ≤ 100) (hz : z.length ≤ 100) (hnb : NoneBooked s.heap)
    (hq : ∀ t' k, Q (.str (Txt.replace x y z) t') { s with toks := k }) : wpAny (model prog w) A (call (.builtin "str.replace") [.str x t, .str y u, .str z v]) Q E s :=
  SC.replaceA hu hv huv (by
    have h1 : (x.length + 1) * z.length ≤ 101 * 100 := Nat.mul_le_mul (by omega) hz
    omega) hq hnb
end Mine
namespace Mine
/-- the body's end: one text stored, the ledger kept -/
theorem setM_swap {m : Str → Option Value} {x y : Str} {v w w' : Value} (hxy : y ≠ x) : ∀ z, (if z = y then some v else setM (setM m y w) x w' z) = (if z = y then some v else if z = x then some w' else m z) := fun z => by
  by_cases h1 : z = y
  · rw [if_pos h1, if_pos h1]
  · rw [if_neg h1, if_neg h1]
    show (if z = x then some w' else if z = y then some w else m z) = _
    rw [if_neg h1]
section
variable {prog : Program} {w : World} {A : Around} {E : Value → Shared → Prop} {Q : Flow → Shared → Prop} {s : Shared} {env : Env} {h₀ : Heap} {m : Str → Option Value} {news : List (Addr × Obj)} {body : List Stmt} {x y : Str} {px : Pos} {r : Addr} {b : Int} {t₁ t₂ t₃ t₀ : Tok} {n : Nat}
theorem iter_pos (g : Nat → Str) (hh : A.handled = none) (hr : IsRange s.heap r 0 b 1 t₁ t₂ t₃) (hb : b = (n : Int)) (hn : n ≤ 1000) (F : Fr h₀ env.locals s.heap m) (N : News h₀ env.locals s.heap news) (hy : m y = some (.str (g 0) t₀)) (hxy : y ≠ x) (hx : env.kindOf x = some .local)
    (hp : (env.scope.kind == .class || (env.scope.kind == .module && env.locals != env.globals)) = false)
    (turn : ∀ I it k h tk t tv, 0 < tk → k < n → (∀ p ∈ news, p.1 ≠ I) → Fr h₀ env.locals h (setM (setM m y (.str (g k) t)) x (.int (0 + (k : Int)) tv)) → News h₀ env.locals h ((I, it) :: news) →
      wpAny (model prog w) A (execs body env) (Stored h₀ env.locals (setM (setM m y (.str (g k) t)) x (.int (0 + (k : Int)) tv)) y (g (k + 1)) ((I, it) :: news) { s with heap := h, toks := tk }) E { s with heap := h, toks := tk })
    (done : ∀ (u : Str → Option Value) h tk t, Fr h₀ env.locals h (setM (fun z => if z = x then u z else m z) y (.str (g n) t)) → News h₀ env.locals h news → Q .next { s with heap := h, toks := tk })
    (hE : PassesOwn (model prog w) A env E := by passes_own) :
    wpAny (model prog w) A (pyIter (.ref r)) (fun it s₂ => codeAny (model prog w) A (.forLoop (.Name x px) it body [] env) (fun r s' => match r with | .ok f => Q f s' | .error e => cameBackBy (model prog w) A env E e s') s₂) E s := by
  subst hb
  have hsm : Builtin.Range.small 0 (n : Int) 1 = true := small_one (by omega) (by omega) (by omega) (by omega)
  have hsz : Builtin.Range.rangeSize 0 (n : Int) 1 = (n : Int) := by rw [rangeSize_one]; split <;> omega
  have hnew : h₀.get? s.heap.objs.size = none := next_is_new F
  have hLI : env.locals ≠ s.heap.objs.size := Nat.ne_of_lt F.ns.lt
  have hNI : ∀ p ∈ news, p.1 ≠ s.heap.objs.size := fun p hp => Nat.ne_of_lt (Heap.lt_size (N p hp).1)
  refine wpAny_pyIter_range hr hsm ?_
  have W := Walks.range (prog := prog) (w := w) hh s.heap.objs.size 0 1 n
  -- the heaps of the loop
  refine codeAny_forLoop (fun k s' => ∃ h tk m' i t, s' = { s with heap := h, toks := tk } ∧ IsRangeIter h s.heap.objs.size (0 + (i : Nat) * 1) ((n : Int) - (i : Nat)) 1 ∧ Fr h₀ env.locals h m' ∧ News h₀ env.locals h news ∧
    (m' y = some (.str (g i) t) ∧ ∀ z, z ≠ y → z ≠ x → m' z = m z) ∧ i ≤ n ∧ k = n + 1 - i) ?_ (n + 1)
    ⟨_, _, m, 0, t₀, rfl, by rw [hsz]; simpa using Heap.get?_push_size _ rfl, F.push _, (fun p hp => ⟨Heap.get?_push_of_some _ (N p hp).1, (N p hp).2⟩), ⟨hy, fun _ _ _ => rfl⟩, Nat.zero_le _, rfl⟩
  rintro k s' ⟨h, tk, m', i, t, rfl, hst, F', N', ⟨hy', hz'⟩, hi, rfl⟩
  have keep : ∀ h₁ : Heap, (∀ b o, b ∉ [s.heap.objs.size] → h.get? b = some o → h₁.get? b = some o) → Fr h₀ env.locals h₁ m' ∧ News h₀ env.locals h₁ news := fun h₁ hk =>
    ⟨⟨F'.ns.at' fun o e => hk _ o (fun q => hLI (List.mem_singleton.mp q)) e, fun b o e => hk b o (fun q => by rw [List.mem_singleton.mp q, hnew] at e; cases e) (F'.keep b o e), F'.above⟩,
      fun p hp => ⟨hk _ _ (fun q => hNI p hp (List.mem_singleton.mp q)) (N' p hp).1, (N' p hp).2⟩⟩
  by_cases hlt : i < n
  · refine W.item i _ _ _ hlt hst fun v h₁ tk₁ hv hst₁ hk₁ => ?_
    obtain ⟨tv, rfl⟩ := hv
    obtain ⟨F₁, N₁⟩ := keep h₁ hk₁
    refine wpAny_assign_Name (wpAny_storeName_local hx F₁.ns (fun h₂ hn₂ hs₂ => ?_) hp)
    have F₂ := F₁.set hn₂ hs₂
    have N₂ := N₁.set hs₂
    have hit₂ : h₂.get? s.heap.objs.size = some (itR (0 + ((i + 1 : Nat) : Int) * 1) ((n : Int) - ((i + 1 : Nat) : Int))) := (hs₂.2 _ (Ne.symm hLI)).trans hst₁
    have F₃ : Fr h₀ env.locals h₂ (setM (setM m y (.str (g i) t)) x (.int (0 + (i : Int)) tv)) := Fr.congr F₂ fun z => by
      show (if z = x then some (Value.int (0 + (i : Int) * 1) tv) else m' z) = if z = x then some (Value.int (0 + (i : Int)) tv) else if z = y then some (.str (g i) t) else m z
      rw [Int.mul_one]
      by_cases h1 : z = x
      · rw [if_pos h1, if_pos h1]
      · rw [if_neg h1, if_neg h1]
        by_cases h2 : z = y
        · rw [if_pos h2, h2, hy']
        · rw [if_neg h2]; exact hz' z h2 h1
    have N₃ : News h₀ env.locals h₂ ((s.heap.objs.size, itR (0 + ((i + 1 : Nat) : Int) * 1) ((n : Int) - ((i + 1 : Nat) : Int))) :: news) := fun p hp => by
      rcases List.mem_cons.mp hp with rfl | hp
      · exact ⟨hit₂, Ne.symm hLI, hnew⟩
      · exact N₂ p hp
    refine wpAny_passesOwn hE (wpAny_mono (turn _ _ i h₂ (tk₁ + 1) t tv (Nat.succ_pos _) hlt hNI F₃ N₃) (fun f s₃ hf => ?_) fun _ _ e => e)
    obtain ⟨rfl, h₄, tk₄, t₄, rfl, F₄, N₄⟩ := hf
    refine ⟨n + 1 - (i + 1), by omega, h₄, tk₄, _, i + 1, t₄, rfl, (N₄ _ (List.mem_cons_self ..)).1, F₄, fun p hp => N₄ p (List.mem_cons_of_mem _ hp), ⟨if_pos rfl, fun z h1 h2 => ?_⟩, hlt, rfl⟩
    show (if z = y then _ else if z = x then _ else if z = y then _ else m z) = m z
    rw [if_neg h1, if_neg h2, if_neg h1]
  · have hin : i = n := by omega
    subst hin
    refine W.done _ _ _ hst fun h₁ tk₁ hk₁ => wpAny_execs_nil ?_
    obtain ⟨F₁, N₁⟩ := keep h₁ hk₁
    refine done m' h₁ tk₁ t (Fr.congr F₁ fun z => ?_) N₁
    show m' z = if z = y then some (.str (g i) t) else if z = x then m' z else m z
    by_cases h2 : z = y
    · rw [if_pos h2, h2, hy']
    · rw [if_neg h2]
      by_cases h1 : z = x
      · rw [if_pos h1]
      · rw [if_neg h1]; exact hz' z h2 h1
end
end Mine
namespace Mine
theorem runs_count {i j : Nat} : ∀ n, (runs i j n).count 34 = n * (run i j).count 34
  | 0 => by simp [runs]
  | n + 1 => by
    show (run i j ++ runs i j n).count 34 = _
    rw [List.count_append, runs_count n, Nat.succ_mul, Nat.add_comm]
theorem count_nm {A B : List Nat} {n : Nat} (H : Nam A B n) : Txt.count (nm A B n 0 0) (Str.ofString "\"") = (n : Int) := by
  rw [quo, count_one, nm_list]
  unfold nmL
  rw [List.count_append, List.count_append, List.count_eq_zero.mpr H.a34, List.count_eq_zero.mpr H.b34, runs_count]
  have : (run 0 0).count 34 = 1 := by decide
  rw [this]
  simp
section
variable {prog : Program} {w : World} {A₀ : Around} {E : Value → Shared → Prop} {s : Shared} {Q : Value → Shared → Prop} {h₀ : Heap} {L : Addr} {m : Str → Option Value} {news : List (Addr × Obj)}
theorem abs_nat {a : Int} {t : Tok} (h : ∀ u tk, Q (.int (a.natAbs : Int) u) { s with toks := tk }) : wpAny (model prog w) A₀ (call (.builtin "abs") [.int a t]) Q E s :=
  call_abs_int fun u tk => by
    have : (if a < 0 then -a else a) = (a.natAbs : Int) := by split <;> omega
    rw [this]; exact h u tk
theorem max3_N {a b c : Int} {t u x : Tok} (hh : A₀.handled = none) (F : Fr h₀ L s.heap m) (N : News h₀ L s.heap news)
    (h : ∀ (t' : Tok) (h' : Heap) (tk' : Nat), Fr h₀ L h' m → News h₀ L h' news → Q (.int (max (max a b) c) t') { s with heap := h', toks := tk' }) :
    wpAny (model prog w) A₀ (call (.builtin "max") [.int a t, .int b u, .int c x]) Q E s :=
  max_three_ints hh fun h' tk hk => by
    have h1 := fun t' => h t' h' tk (F.keptAll hk) fun p hp => ⟨hk _ _ (N p hp).1, (N p hp).2⟩
    by_cases h2 : b > a
    · rw [if_pos h2]
      by_cases h3 : c > b
      · rw [if_pos h3, show c = max (max a b) c by omega]; exact h1 _
      · rw [if_neg h3, show b = max (max a b) c by omega]; exact h1 _
    · rw [if_neg h2]
      by_cases h3 : c > a
      · rw [if_pos h3, show c = max (max a b) c by omega]; exact h1 _
      · rw [if_neg h3, show a = max (max a b) c by omega]; exact h1 _
theorem two_mul {A B : List Nat} {n : Nat} (H : Nam A B n) {t u : Tok} (h : ∀ t' tk, Q (.int (2 * (n : Int)) t') { s with toks := tk }) : wpAny (model prog w) A₀ (binaryOp .Mult (.int 2 t) (.int (Txt.count (nm A B n 0 0) (Str.ofString "\"")) u)) Q E s := by
  rw [count_nm H]
  exact mul_int (h _ _) (PySem.IntMulOk.of_left (PySem.intBits_le_64 (by omega) (by omega)))
theorem due_mul {A B : List Nat} {n : Nat} (H : Nam A B n) {b q : Int} {t u : Tok} (h : ∀ t' tk, Q (.int (dueF n b q) t') { s with toks := tk }) : wpAny (model prog w) A₀ (binaryOp .Mult (.int (2 * (n : Int)) t) (.int (max (max (b.natAbs : Int) (q.natAbs : Int)) ((b + q).natAbs : Int)) u)) Q E s :=
  mul_int (h _ _) (PySem.IntMulOk.of_left (PySem.intBits_le_64 (by have := H.most; omega) (by have := H.most; omega)))
theorem ne_int_same {a b : Int} {t u : Tok} (e : a = b) (h : Q (.bool false) s) : wpAny (model prog w) A₀ (compareOp .NotEq (.int a t) (.int b u)) Q E s := by
  subst e
  exact ne_int (by simpa using h)
end
end Mine
namespace Mine
local macro_rules | `(tactic| walk_at "call ref") => `(tactic| (k_here; (with_reducible show wpAny _ _ (call (Value.ref 44) [Value.str _ _, Value.str _ _]) _ _ _); k_dflt (refine' fmt_nm _ _ ?sB ?sF ?sK ?sN ?sT ?sk ?sH ?s1 ?sd ?su ?_; (case sB => k_asm); (case sF => k_asm); (case sK => k_asm); (case sN => k_asm); (case sT => k_asm); (case sk => exact rfl); (case sH => assumption); (case s1 => omega);  (case sd => ktr_room); (case su => ktr_units)); intro t9 h9 tk9 F9 N9; (try dsimp only); (try k_fold)))
local macro_rules | `(tactic| walk_at "call ref") => `(tactic| (k_here; (with_reducible show wpAny _ _ (call (Value.ref 76) [Value.str _ _]) _ _ _); k_dflt (refine' parse_nm _ ?sB ?sF ?sK ?sN ?sT ?sk ?sH ?s1 ?s2 ?sd ?su ?_; (case sB => k_asm); (case sF => k_asm); (case sK => k_asm); (case sN => k_asm); (case sT => k_asm); (case sk => exact rfl); (case sH => assumption); (case s1 => omega); (case s2 => omega);  (case sd => ktr_room); (case su => ktr_units)); intro t9 h9 tk9 F9 N9; (try dsimp only); (try k_fold)))
theorem ne_same' {prog : Program} {w : World} {A : Around} {E : Value → Shared → Prop} {s : Shared} {x y : Str} {t u : Tok} {Q : Value → Shared → Prop} (h : x = y) (hq : Q (.bool false) s) : wpAny (model prog w) A (compareOp .NotEq (.str x t) (.str y u)) Q E s := ne_same h hq
local macro_rules | `(tactic| walk_at "compareOp NotEq str str") => `(tactic| (k_here; refine ne_same' (by first | exact wrap3 _ | exact wrapL _ | exact once_ok (by assumption) (by assumption) (by omega) | exact rfl) ?_))
local macro_rules | `(tactic| walk_at "execs cons") => `(tactic| (k_here; refine gen_pos ?_; intro tk' htk'))
local macro_rules | `(tactic| walk_at "execs nil") => `(tactic| (k_here; refine gen_pos ?_; intro tk' htk'))
local macro_rules | `(tactic| walk_at "binaryOp Mult str int") => `(tactic| (k_here; refine mul_low (mul_ok (by assumption)) ?_; intro t8 k8 hk8; (try dsimp only at hk8)))
local macro_rules | `(tactic| walk_at "binaryOp Add str str") => `(tactic| (k_here; (with_reducible show wpAny _ _ (binaryOp Operator.Add (Value.str (Txt.mul _ _) _) (Value.str _ _)) _ _ _); refine add_low (by rw [quo_len]; decide) (by rw [quo_len]; omega) ?_; intro t7 k7 ht7 hk7; (try dsimp only at ht7 hk7)))
local macro_rules | `(tactic| walk_at "call builtin:str.replace") => `(tactic| (k_here; (with_reducible show wpAny _ _ (call (Value.builtin "str.replace") [Value.str _ _, Value.str _ _, Value.str (_ ++ _) _]) _ _ _); k_dflt (refine' replace_any ?ra ?rb ?rc ?rd ?re ?rf ?_; (case ra => ((show @Ne Nat _ _); omega)); (case rb => ((show @Ne Nat _ _); omega)); (case rc => ((show @Ne Nat _ _); omega)); (case rd => omega); (case re => (rw [Str.length_append, quo_len]; omega)); (case rf => exact none_booked_of (by k_in))); intro t8 k8))
local macro_rules | `(tactic| walk_at "call builtin:str.replace") => `(tactic| (k_here; (with_reducible show wpAny _ _ (call (Value.builtin "str.replace") [Value.str _ _, Value.str (PySem.Str.ofString _) _, Value.str (PySem.Str.ofString _) _]) _ _ _); k_dflt (refine' replace_pos ?rp ?ra ?rb ?rc ?rd ?re ?rf ?_; (case rp => ((show @LT.lt Nat _ _ _); (try dsimp only); omega)); (case ra => ((show @Ne Nat _ _); omega)); (case rb => ((show @Ne Nat _ _); omega)); (case rc => ((show @Ne Nat _ _); omega)); (case rd => decide +kernel); (case re => omega); (case rf => decide +kernel)); intro t8 k8 hk8))
local macro_rules | `(tactic| k_all) => `(tactic| (intro p9 h9; exact (by assumption : ∀ p ∈ _, p.1 ≠ _) p9 h9))
local macro_rules | `(tactic| walk_at "Stored") => `(tactic| (refine Stored.mk' (by k_asm) ?_ (by k_asm); exact dblS_nm (by assumption) (by omega) (by omega)))
local macro_rules | `(tactic| walk_at "call builtin:abs") => `(tactic| (k_here; refine abs_nat ?_; intro u9 tk9))
local macro_rules | `(tactic| walk_at "call builtin:max") => `(tactic| (k_here; k_dflt (refine' max3_N ?sh ?sF ?sN ?_; (case sh => with_unfolding_all rfl); (case sF => k_asm); (case sN => k_asm)); intro t9 h9 tk9 F9 N9; (try dsimp only)))
local macro_rules | `(tactic| walk_at "binaryOp Mult int int") => `(tactic| (k_here; refine two_mul (by assumption) ?_; intro u9 tk9))
local macro_rules | `(tactic| walk_at "binaryOp Mult int int") => `(tactic| (k_here; refine due_mul (by assumption) ?_; intro u9 tk9))
local macro_rules | `(tactic| walk_at "compareOp NotEq int int") => `(tactic| (k_here; refine ne_int_same (by with_reducible rfl) ?_))
local macro_rules | `(tactic| walk_at "call ref") => `(tactic| (k_here; (with_reducible show wpAny _ _ (call (Value.ref 90) [Value.str _ _, Value.str _ _, Value.int _ _]) _ _ _); k_dflt (refine' lev_nm _ _ _ 1 _ ?sB ?sF ?sK ?sN ?sT ?sk ?sH ?s1 ?s2 ?s3 ?s4 ?s5 ?sD ?sd ?su ?_; (case sB => k_asm); (case sF => k_asm); (case sK => k_asm); (case sN => k_asm); (case sT => k_asm); (case sk => exact rfl); (case sH => assumption); (case s1 => assumption); (case s2 => assumption); (case s3 => assumption); (case s4 => assumption); (case s5 => decide); (case sD => (congr 1; done)); (case sd => ktr_room); (case su => ktr_units)); intro t9 h9 tk9 F9 N9; (try dsimp only); (try k_fold)))
local macro_rules | `(tactic| walk_at "call ref") => `(tactic| (k_here; (with_reducible show wpAny _ _ (call (Value.ref 90) [Value.str _ _, Value.str _ _, Value.int _ _]) _ _ _); k_dflt (refine' lev_nm _ _ _ 0 _ ?sB ?sF ?sK ?sN ?sT ?sk ?sH ?s1 ?s2 ?s3 ?s4 ?s5 ?sD ?sd ?su ?_; (case sB => k_asm); (case sF => k_asm); (case sK => k_asm); (case sN => k_asm); (case sT => k_asm); (case sk => exact rfl); (case sH => assumption); (case s1 => assumption); (case s2 => assumption); (case s3 => assumption); (case s4 => assumption); (case s5 => decide); (case sD => (congr 1; done)); (case sd => ktr_room); (case su => ktr_units)); intro t9 h9 tk9 F9 N9; (try dsimp only); (try k_fold)))
set_option maxRecDepth 100000 in
set_option maxHeartbeats 60000000 in
theorem law_holds : PySem.Challenge.rw_ta0011_01.Holds := Mine.hd (by
  w_strict (k_go0; (all_goals try k_fold); skip)
  w_top off
  rename Fr _ _ _ _ => lF'
  replace lF' := Fr.frame1 lF'
  repeat' ((fail_if_success (with_reducible show wpAny _ _ (pyIter _) _ _ _)); (first | (k_unfold; (try dsimp only)) | walk1 | (dsimp only; walk1)))
  k_state (fun (pre : List Int) (cells : List Int) => cells.length = 3) "cells"
  · subst kEq
    repeat' (first | (k_unfold; (try dsimp only)) | walk1 | (dsimp only; walk1))
  rename_i vs3 ns3 cn3 _ _ _
  obtain ⟨c0, c1, c2, t0, t1, t2, rfl, rfl⟩ := ints3 kFacts kInv
  dsimp only
  repeat' ((fail_if_success (with_reducible show wpAny _ _ (exec (Stmt.Assign [PySem.Expr.Name (PySem.Str.ofString "name") _] _ _) _) _ _ _)); (first | (k_unfold; (try dsimp only)) | walk1 | (dsimp only; walk1)))
  rename Fr _ _ _ _ => F1
  rename News _ _ _ _ => N1
  refine name_cut _ F1 rfl N1 (by with_unfolding_all k_mem) ?_ (fun h' tk' m' t' A B n H F' N' => ?_)
  · clear qk
    repeat' (first | (k_unfold; (try dsimp only)) | walk1 | (dsimp only; walk1))
    all_goals first
      | exact NamePost.mk' (A := []) (B := [sg c2]) (n := 1) (by k_asm) rfl (by k_asm) (by with_unfolding_all k_mem) (nam_of (.inl rfl) (.inl ⟨_, rfl⟩) (by decide) (by decide)) (mk_list (by simp only [Str.cps_append, Array.toList_append, q0, q1, q2, q3]; rfl))
      | exact NamePost.mk' (A := []) (B := [sg c1, sg c2]) (n := 1) (by k_asm) rfl (by k_asm) (by with_unfolding_all k_mem) (nam_of (.inl rfl) (.inr ⟨_, _, rfl⟩) (by decide) (by decide)) (mk_list (by simp only [Str.cps_append, Array.toList_append, q0, q1, q2, q3]; rfl))
      | exact NamePost.mk' (A := []) (B := [sg c2]) (n := 2) (by k_asm) rfl (by k_asm) (by with_unfolding_all k_mem) (nam_of (.inl rfl) (.inl ⟨_, rfl⟩) (by decide) (by decide)) (mk_list (by simp only [Str.cps_append, Array.toList_append, q0, q1, q2, q3]; rfl))
      | exact NamePost.mk' (A := []) (B := [sg c1, sg c2]) (n := 2) (by k_asm) rfl (by k_asm) (by with_unfolding_all k_mem) (nam_of (.inl rfl) (.inr ⟨_, _, rfl⟩) (by decide) (by decide)) (mk_list (by simp only [Str.cps_append, Array.toList_append, q0, q1, q2, q3]; rfl))
      | exact NamePost.mk' (A := []) (B := [sg c2]) (n := 3) (by k_asm) rfl (by k_asm) (by with_unfolding_all k_mem) (nam_of (.inl rfl) (.inl ⟨_, rfl⟩) (by decide) (by decide)) (mk_list (by simp only [Str.cps_append, Array.toList_append, q0, q1, q2, q3]; rfl))
      | exact NamePost.mk' (A := []) (B := [sg c1, sg c2]) (n := 3) (by k_asm) rfl (by k_asm) (by with_unfolding_all k_mem) (nam_of (.inl rfl) (.inr ⟨_, _, rfl⟩) (by decide) (by decide)) (mk_list (by simp only [Str.cps_append, Array.toList_append, q0, q1, q2, q3]; rfl))
      | exact NamePost.mk' (A := [sg c0]) (B := [sg c2]) (n := 1) (by k_asm) rfl (by k_asm) (by with_unfolding_all k_mem) (nam_of (.inr ⟨_, rfl⟩) (.inl ⟨_, rfl⟩) (by decide) (by decide)) (mk_list (by simp only [Str.cps_append, Array.toList_append, q0, q1, q2, q3]; rfl))
      | exact NamePost.mk' (A := [sg c0]) (B := [sg c1, sg c2]) (n := 1) (by k_asm) rfl (by k_asm) (by with_unfolding_all k_mem) (nam_of (.inr ⟨_, rfl⟩) (.inr ⟨_, _, rfl⟩) (by decide) (by decide)) (mk_list (by simp only [Str.cps_append, Array.toList_append, q0, q1, q2, q3]; rfl))
      | exact NamePost.mk' (A := [sg c0]) (B := [sg c2]) (n := 2) (by k_asm) rfl (by k_asm) (by with_unfolding_all k_mem) (nam_of (.inr ⟨_, rfl⟩) (.inl ⟨_, rfl⟩) (by decide) (by decide)) (mk_list (by simp only [Str.cps_append, Array.toList_append, q0, q1, q2, q3]; rfl))
      | exact NamePost.mk' (A := [sg c0]) (B := [sg c1, sg c2]) (n := 2) (by k_asm) rfl (by k_asm) (by with_unfolding_all k_mem) (nam_of (.inr ⟨_, rfl⟩) (.inr ⟨_, _, rfl⟩) (by decide) (by decide)) (mk_list (by simp only [Str.cps_append, Array.toList_append, q0, q1, q2, q3]; rfl))
      | exact NamePost.mk' (A := [sg c0]) (B := [sg c2]) (n := 3) (by k_asm) rfl (by k_asm) (by with_unfolding_all k_mem) (nam_of (.inr ⟨_, rfl⟩) (.inl ⟨_, rfl⟩) (by decide) (by decide)) (mk_list (by simp only [Str.cps_append, Array.toList_append, q0, q1, q2, q3]; rfl))
      | exact NamePost.mk' (A := [sg c0]) (B := [sg c1, sg c2]) (n := 3) (by k_asm) rfl (by k_asm) (by with_unfolding_all k_mem) (nam_of (.inr ⟨_, rfl⟩) (.inr ⟨_, _, rfl⟩) (by decide) (by decide)) (mk_list (by simp only [Str.cps_append, Array.toList_append, q0, q1, q2, q3]; rfl))
  dsimp only
  clear F1 N1
  repeat' ((fail_if_success (with_reducible show wpAny _ _ (pyIter _) _ _ _)); (first | (k_unfold; (try dsimp only)) | walk1 | (dsimp only; walk1)))
  walk1
  refine cells_rest (A := A) (B := B) (n := n) ?_ ?_ ?_ (fun c tc it h tk mm tn tups cw hit htup htl hoff hoffI F' N' => ?_) (fun h tk mm tn tups cw htup htl hoff F' N' => ?_) _ _ _ [] (by intro v hv; simp only [List.mem_cons, List.not_mem_nil, or_false] at hv; rcases hv with rfl | rfl | rfl <;> exact ⟨_, _, rfl⟩) rfl (by intro p hp; cases hp) ?_ (by intro p hp; cases hp) ⟨_, _, _, rfl, rfl⟩
  · (show @Ne Nat _ _); omega
  · (show @LT.lt Nat _ _ _); omega
  · (show @LT.lt Nat _ _ _); omega
  · repeat' ((fail_if_success (with_reducible show wpAny _ _ (pyIter _) _ _ _)); (first | (k_unfold; (try dsimp only)) | walk1 | (dsimp only; walk1)))
    k_with "state" => first | exact (wrapM _).trans (by rw [List.length_append]; rfl)
    k_state (fun (pre : List Int) (text : Str) => text = nm A B n pre.length 0) "text"
    · subst kEq
      subst kInv
      have hlt : kPre.length < 2 := by omega
      have hwl : (wrapF (nm A B n (kPre.length + 1) 0)).length ≤ 28 := by
        rw [wrap_len]
        have := H.len_le (i := kPre.length + 1) (j := 0) (by omega) (by omega)
        omega
      repeat' (first | (k_unfold; (try dsimp only)) | walk1 | (dsimp only; walk1))
    · rw [rangeKs_length] at kInv
      subst kInv
      have hi3 : ((c.fdiv 9).fmod 3 - 0).toNat < 3 := by omega
      have hli := H.len_le (j := 0) hi3 (by omega)
      have hln := H.len_le (i := 0) (j := 0) (by omega) (by omega)
      have hi3' : ((c.fdiv 9).fmod 3).toNat < 3 := by omega
      have hbf := bF_le hi3'
      have hml := mul_len hi3'
      dsimp only
      repeat' ((fail_if_success (with_reducible show wpAny _ _ (exec (Stmt.For _ _ _ _ _) _) _ _ _)); (first | (k_unfold; (try dsimp only)) | walk1 | (dsimp only; walk1)))
      refine wpAny_For ?_ (by intro _; rfl)
      repeat' ((fail_if_success (with_reducible show wpAny _ _ (pyIter _) _ _ _)); (first | (k_unfold; (try dsimp only)) | walk1 | (dsimp only; walk1)))
      rename IsRange _ _ _ _ _ _ _ _ => R2
      rename Fr _ _ _ _ => F2
      rename News _ _ _ _ => N2
      have hj3 : ((c.fdiv 3).fmod 3).toNat < 3 := by omega
      refine iter_pos (n := ((c.fdiv 3).fmod 3).toNat) (y := Str.ofString "text") (fun k => nm A B n ((c.fdiv 9).fmod 3 - 0).toNat k) rfl R2 (by omega) (by omega) F2 N2 rfl (by decide) rfl rfl (fun I2 it2 k2 h tk t tv htk hk2 hoff2 F' N' => ?_) (fun u h tk t F' N' => ?_) (by passes_own)
      · have hlk := H.len_le (j := k2) hi3 (by omega)
        clear F2 N2
        dsimp only
        repeat' (first | (k_unfold; (try dsimp only)) | walk1 | (dsimp only; walk1))
      · clear F2 N2
        have hlj := H.len_le (j := ((c.fdiv 3).fmod 3).toNat) hi3 hj3
        dsimp only
        repeat' ((fail_if_success (with_reducible show wpAny _ _ (pyIter _) _ _ _)); (first | (k_unfold; (try dsimp only)) | walk1 | (dsimp only; walk1)))
        k_with "state" => first | exact congrArg (nm A B n _) (by rw [List.length_nil]; omega) | exact congrArg (nm A B n _) (by rw [List.length_append, List.length_cons, List.length_nil]; omega)
        k_state (fun (pre : List Int) (told : Str) => told = nm A B n ((c.fdiv 9).fmod 3 - 0).toNat (((c.fdiv 3).fmod 3).toNat - pre.length)) "told"
        · subst kEq
          obtain ⟨k, hk⟩ : ∃ k, ((c.fdiv 3).fmod 3).toNat - kPre.length = k + 1 := ⟨((c.fdiv 3).fmod 3).toNat - kPre.length - 1, by omega⟩
          rw [hk] at kInv
          subst kInv
          have hlk := H.len_le (j := k + 1) hi3 (by omega)
          have q1 : (Str.ofString "257 \"").length = 5 := by decide +kernel
          have q2 : (Str.ofString "\" \"x\"").length = 5 := by decide +kernel
          repeat' (first | (k_unfold; (try dsimp only)) | walk1 | (dsimp only; walk1))
        · rw [rangeKs_length, show ((c.fdiv 3).fmod 3).toNat - ((c.fdiv 3).fmod 3 - 0).toNat = 0 by omega] at kInv
          subst kInv
          have hoffT : ∀ p ∈ tups, p.1 ≠ _ := fun p hp => hoff p (List.mem_cons_of_mem _ hp)
          have htz : (refsL tups).toArray.size ≤ 2 := by simpa [refsL] using htl
          dsimp only
          repeat' (first | (k_unfold; (try dsimp only)) | walk1 | (dsimp only; walk1))
          rename Fr _ _ _ _ => F9
          rename News _ _ _ _ => N9
          rw [show ((c.fdiv 9).fmod 3 - 0).toNat = ((c.fdiv 9).fmod 3).toNat by omega] at N9
          exact TurnPost.mk' (i := ((c.fdiv 9).fmod 3).toNat) (j := ((c.fdiv 3).fmod 3).toNat) F9 rfl rfl rfl N9 hi3' hj3 (by with_unfolding_all k_mem) (by with_unfolding_all k_mem) (by with_unfolding_all k_mem) (fun p hp => List.mem_cons_of_mem _ (List.mem_cons_of_mem _ (List.mem_cons_of_mem _ hp)))
  · obtain ⟨a0, a1, a2, i0, j0, i1, j1, i2, j2, u0, v0, w0, u1, v1, w1, u2, v2, w2, rfl, hi0, hj0, hi1, hj1, hi2, hj2⟩ := tups3 htup htl
    dsimp only
    repeat' (first | (k_unfold; (try dsimp only)) | walk1 | (dsimp only; walk1))
    all_goals (dsimp only)
    all_goals k_steps
  · intro p hp; rw [List.mem_singleton.mp hp]; (show @Ne Nat _ _); omega)
end Mine
theorem PySem.Challenge.cw_ta0011_01_holds : PySem.Challenge.rw_ta0011_01.Holds := by
  exact Mine.law_holds
