import PyProof.Rows.All
import Wide.All
import OpenK.AllK
import Wide.FinOn
import PySem.Challenge.RW_er0021_01
set_option Elab.async false
set_option linter.unusedVariables false
section
open PySem PySem.W PyProof.Rows
namespace Mine
set_option maxRecDepth 100000 in
set_option maxHeartbeats 8000000 in
open_top hd for PySem.Challenge.rw_er0021_01
end Mine
end
section
open PySem PySem.W PyProof.Rows
namespace Mine
/-! plain laws: texts as lists of numbers -/
def S (l : List Nat) : Str := ⟨l.toArray⟩
theorem S_list (x : Str) : S x.cps.toList = x := by cases x; simp [S]
theorem S_len (l : List Nat) : (S l).length = l.length := by simp [S, Str.length]
theorem S_cps (l : List Nat) : (S l).cps.toList = l := by simp [S]
theorem S_app (a b : List Nat) : S a ++ S b = S (a ++ b) := by
  apply Str.ext'; rw [Str.cps_append]; simp [S]
theorem S_inj {a b : List Nat} (h : S a = S b) : a = b := by
  have := congrArg (fun x : Str => x.cps.toList) h
  simpa [S] using this
theorem S_beq (a b : List Nat) : (S a == S b) = (a == b) := by
  by_cases h : a = b
  · subst h; simp
  · have h' : S a ≠ S b := fun e => h (S_inj e)
    rw [beq_false_of_ne h', beq_false_of_ne h]
theorem S_bne (a b : List Nat) : (S a != S b) = (a != b) := by
  simp only [bne, S_beq]

def clip (n : Nat) (i : Int) : Nat := (max 0 (min (if i < 0 then i + n else i) n)).toNat
theorem clip_le (n : Nat) (i : Int) : clip n i ≤ n := by unfold clip; omega
theorem clip_nat (n k : Nat) : clip n (k : Int) = min k n := by unfold clip; split <;> omega
open Builtin Builtin.Str in
theorem idx_clip (lo hi : Option Int) (n : Nat) :
    strSliceIndices lo hi 1 n = strSliceIndices (some ((lo.map (clip n)).getD 0 : Nat)) (some ((hi.map (clip n)).getD n : Nat)) 1 n := by
  have k1 : ∀ k : Nat, k ≤ n → (max (0 : Int) (min (if (k : Int) < 0 then (k : Int) + n else k) n)) = k := fun k hk => by split <;> omega
  have k2 : ∀ i : Int, (max (0 : Int) (min (if i < 0 then i + n else i) n)) = (clip n i : Nat) := fun i => by unfold clip; omega
  cases lo with
  | none =>
    cases hi with
    | none => simp only [strSliceIndices, Option.map_none, Option.getD_none, show ((1 : Int) > 0) = True from by simp, if_true]; rw [k1 0 (by omega), k1 n (by omega)]; rfl
    | some j => simp only [strSliceIndices, Option.map_none, Option.map_some, Option.getD_some, Option.getD_none, show ((1 : Int) > 0) = True from by simp, if_true]; rw [k1 0 (by omega), k2 j, k1 (clip n j) (clip_le _ _)]; rfl
  | some i =>
    cases hi with
    | none => simp only [strSliceIndices, Option.map_none, Option.map_some, Option.getD_some, Option.getD_none, show ((1 : Int) > 0) = True from by simp, if_true]; rw [k2 i, k1 n (by omega), k1 (clip n i) (clip_le _ _)]
    | some j => simp only [strSliceIndices, Option.map_some, Option.getD_some, show ((1 : Int) > 0) = True from by simp, if_true]; rw [k2 i, k2 j, k1 (clip n i) (clip_le _ _), k1 (clip n j) (clip_le _ _)]

theorem slice_all (l : List Nat) (lo hi : Option Int) :
    Txt.slice (S l) lo hi = S ((l.drop ((lo.map (clip l.length)).getD 0)).take ((hi.map (clip l.length)).getD l.length - (lo.map (clip l.length)).getD 0)) := by
  have e : Txt.slice (S l) lo hi = StrLaws.sliceText (S l) (some ((lo.map (clip l.length)).getD 0 : Nat)) (some ((hi.map (clip l.length)).getD l.length : Nat)) := by
    unfold Txt.slice StrLaws.sliceText
    rw [S_len, idx_clip lo hi l.length]
  rw [e]
  have ha : (lo.map (clip l.length)).getD 0 ≤ l.length := by cases lo with | none => exact Nat.zero_le _ | some i => exact clip_le _ _
  have hb : (hi.map (clip l.length)).getD l.length ≤ l.length := by cases hi with | none => exact Nat.le_refl _ | some i => exact clip_le _ _
  generalize (lo.map (clip l.length)).getD 0 = a at ha
  generalize (hi.map (clip l.length)).getD l.length = b at hb
  by_cases hab : a ≤ b
  · rw [StrLaws.sliceText_nat (S l) hab (by rw [S_len]; exact hb), S_cps]; rfl
  · have hz : b - a = 0 := by omega
    unfold StrLaws.sliceText
    have hn : Builtin.Str.strSliceIndices (some (a : Int)) (some (b : Int)) 1 (S l).length = [] := by
      rw [S_len]
      have k1 : ∀ k : Nat, k ≤ l.length → (max (0 : Int) (min (if (k : Int) < 0 then (k : Int) + l.length else k) l.length)) = k := fun k hk => by split <;> omega
      simp only [Builtin.Str.strSliceIndices, show ((1 : Int) > 0) = True from by simp, if_true]
      rw [k1 a ha, k1 b hb]
      simp only [PySem.sliceRange]
      have : ¬ ((a : Int) < b) := by omega
      simp [this]
    rw [hn, S_len, hz]
    have : ¬ ((1 : Int) == 1 && ([] : List Nat).length == l.length) = true := by simp; omega
    rw [if_neg this]
    simp [S]

theorem slice_to (l : List Nat) (k : Nat) : Txt.slice (S l) none (some (k : Int)) = S (l.take k) := by
  rw [slice_all]
  simp only [Option.map_none, Option.map_some, Option.getD_none, Option.getD_some, List.drop_zero, clip_nat, Nat.sub_zero]
  by_cases h : k ≤ l.length
  · rw [Nat.min_eq_left h]
  · rw [Nat.min_eq_right (by omega), List.take_length, List.take_of_length_le (by omega)]
theorem slice_from (l : List Nat) (k : Nat) : Txt.slice (S l) (some (k : Int)) none = S (l.drop k) := by
  rw [slice_all]
  simp only [Option.map_none, Option.map_some, Option.getD_none, Option.getD_some, clip_nat]
  by_cases h : k ≤ l.length
  · rw [Nat.min_eq_left h, List.take_of_length_le (by simp)]
  · rw [Nat.min_eq_right (by omega), List.drop_of_length_le (Nat.le_refl _), List.drop_of_length_le (by omega)]; simp
theorem slice_mid (l : List Nat) (a b : Nat) (hb : b ≤ l.length) : Txt.slice (S l) (some (a : Int)) (some (b : Int)) = S ((l.drop a).take (b - a)) := by
  rw [slice_all]
  simp only [Option.map_some, Option.getD_some, clip_nat, Nat.min_eq_left hb]
  by_cases h : a ≤ l.length
  · rw [Nat.min_eq_left h]
  · rw [Nat.min_eq_right (by omega), show b - l.length = 0 by omega, show b - a = 0 by omega]; simp
theorem slice_last (l : List Nat) (k : Nat) (hk : 0 < k) : Txt.slice (S l) (some (-(k : Int))) none = S (l.drop (l.length - k)) := by
  rw [slice_all]
  have e : clip l.length (-(k : Int)) = l.length - k := by unfold clip; rw [if_pos (by omega)]; omega
  simp only [Option.map_none, Option.map_some, Option.getD_none, Option.getD_some, e]
  rw [List.take_of_length_le (by simp)]
theorem slice_but (l : List Nat) (k : Nat) (hk : 0 < k) : Txt.slice (S l) none (some (-(k : Int))) = S (l.take (l.length - k)) := by
  rw [slice_all]
  have e : clip l.length (-(k : Int)) = l.length - k := by unfold clip; rw [if_pos (by omega)]; omega
  simp only [Option.map_none, Option.map_some, Option.getD_none, Option.getD_some, e, List.drop_zero, Nat.sub_zero]

/-! find, rfind of one sign -/
theorem fromIndex_nat (n k : Nat) : fromIndex n (k : Int) = k := by unfold fromIndex; split <;> omega
theorem getD_S (l : List Nat) (i : Nat) : (S l).cps.getD i 0 = l.getD i 0 := by simp [S, Array.getD, List.getD]; split <;> simp_all
theorem find3_at (p m q : List Nat) (c : Nat) (h : c ∉ m) : Txt.find3 (S (p ++ (m ++ c :: q))) (S [c]) (p.length : Int) = ((p.length + m.length : Nat) : Int) := by
  rcases StrLaws.find3_spec (S (p ++ (m ++ c :: q))) c (p.length : Int) with ⟨_, hn⟩ | ⟨k, h1, h2, h3, h4, h5⟩
  · rw [fromIndex_nat, S_len] at hn
    have := hn (p.length + m.length) (by omega) (by simp)
    rw [getD_S] at this
    simp [List.getD] at this
  · rw [fromIndex_nat] at h2 h5
    rw [S_len] at h3
    rw [getD_S] at h4
    refine h1.trans ?_
    congr 1
    by_cases hk : k < p.length + m.length
    · exfalso
      apply h
      have e : (p ++ (m ++ c :: q)).getD k 0 = m[k - p.length]'(by omega) := by
        simp only [List.getD, List.getElem?_append]
        rw [if_neg (by omega), if_pos (by omega)]
        rw [List.getElem?_eq_getElem (by omega)]; rfl
      rw [e] at h4
      exact h4 ▸ List.getElem_mem _
    · by_cases hk2 : k = p.length + m.length
      · exact hk2
      · exfalso
        have := h5 (p.length + m.length) (by omega) (by omega)
        rw [getD_S] at this
        simp [List.getD] at this
theorem find_at (m q : List Nat) (c : Nat) (h : c ∉ m) : Txt.find (S (m ++ c :: q)) (S [c]) = (m.length : Int) := by
  rw [find_is_find3]
  have := find3_at [] m q c h
  simpa using this
theorem find_none (l : List Nat) (c : Nat) (h : c ∉ l) : Txt.find (S l) (S [c]) = -1 := by
  rw [find_is_find3]
  rcases StrLaws.find3_spec (S l) c 0 with ⟨h1, _⟩ | ⟨k, h1, h2, h3, h4, h5⟩
  · exact h1
  · exfalso
    rw [S_len] at h3
    rw [getD_S] at h4
    apply h
    simp only [List.getD, List.getElem?_eq_getElem h3, Option.getD_some] at h4
    exact h4 ▸ List.getElem_mem _

open StrLaws in
theorem last_spec2 (x y : Str) (lo hi : Nat) : (Builtin.Str.lastOccurrence x y lo hi = none ∧ ∀ i, lo ≤ i → ¬ At x y hi i) ∨ ∃ i, Builtin.Str.lastOccurrence x y lo hi = some i ∧ lo ≤ i ∧ At x y hi i ∧ ∀ k, i < k → ¬ At x y hi k := by
  rw [last_eq]
  have key := last_run x y hi (List.range' lo (hi + 1 - lo)) [] none (fun _ h => nomatch h) (fun _ h => nomatch h) (by simpa using List.pairwise_lt_range' (s := lo) (n := hi + 1 - lo))
  have mem : ∀ i, lo ≤ i → At x y hi i → i ∈ [] ++ List.range' lo (hi + 1 - lo) := fun i hlo hi => by have := hi.1; simp [List.mem_range'_1]; omega
  have low : ∀ (l : List Nat) (st : Option Nat), (∀ i ∈ l, lo ≤ i) → (∀ a, st = some a → lo ≤ a) → ∀ a, (forIn l st (lastBody x y hi)).run = some a → lo ≤ a := by
    intro l
    induction l with
    | nil => intro st _ h2 a ha; exact h2 a (by simpa using ha)
    | cons b l ih =>
      intro st h1 h2 a ha
      rw [List.forIn_cons] at ha
      unfold lastBody at ha
      split at ha
      · exact ih (some b) (fun i hi => h1 i (List.mem_cons_of_mem _ hi)) (fun a e => by cases e; exact h1 b (List.mem_cons_self ..)) a ha
      · exact ih st (fun i hi => h1 i (List.mem_cons_of_mem _ hi)) h2 a ha
  cases hr : (forIn (List.range' lo (hi + 1 - lo)) none (lastBody x y hi)).run with
  | none => rw [hr] at key; exact .inl ⟨rfl, fun i hlo hi => key i (mem i hlo hi) hi⟩
  | some a =>
    have hl := low _ none (fun i hi => (List.mem_range'_1.mp hi).1) (fun a e => by cases e) a hr
    rw [hr] at key; exact .inr ⟨a, rfl, hl, key.1, fun k hk hA => key.2 k (mem k (by omega) hA) hk hA⟩
theorem at_iff (l : List Nat) (c hi i : Nat) (hh : hi ≤ l.length) : StrLaws.At (S l) (S [c]) hi i ↔ i < hi ∧ l[i]? = some c := by
  have h1 := StrLaws.subAt_one (S l) c i
  rw [S_cps] at h1
  have e1 : (⟨#[c]⟩ : Str) = S [c] := rfl
  rw [e1] at h1
  have e2 : (S [c]).length = 1 := rfl
  unfold StrLaws.At
  rw [e2] at h1 ⊢
  rw [S_len] at h1
  constructor
  · rintro ⟨a, b⟩; exact ⟨by omega, h1.mp ⟨by omega, b⟩⟩
  · rintro ⟨a, b⟩; exact ⟨by omega, (h1.mpr b).2⟩
/-- rfind with two bounds -/
def rfind4 (x y : Str) (i j : Int) : Int := match Builtin.Str.lastOccurrence x y (fromIndex x.length i) (min (fromIndex x.length j) x.length) with | some k => (k : Int) | none => -1
theorem last_at (p m q r : List Nat) (c : Nat) (h : c ∉ q) : Builtin.Str.lastOccurrence (S (p ++ (m ++ c :: (q ++ r)))) (S [c]) p.length (p.length + m.length + 1 + q.length) = some (p.length + m.length) := by
  have hh : p.length + m.length + 1 + q.length ≤ (p ++ (m ++ c :: (q ++ r))).length := by simp; omega
  have hc : (p ++ (m ++ c :: (q ++ r)))[p.length + m.length]? = some c := by
    rw [List.getElem?_append_right (by omega), List.getElem?_append_right (by omega), show p.length + m.length - p.length - m.length = 0 by omega]; rfl
  rcases last_spec2 (S (p ++ (m ++ c :: (q ++ r)))) (S [c]) p.length (p.length + m.length + 1 + q.length) with ⟨_, hn⟩ | ⟨i, h1, h2, h3, h4⟩
  · exact absurd ((at_iff _ c _ (p.length + m.length) hh).mpr ⟨by omega, hc⟩) (hn _ (by omega))
  · rw [h1]
    have h3' := (at_iff _ c _ i hh).mp h3
    congr 1
    by_cases hlt : i < p.length + m.length
    · exact absurd ((at_iff _ c _ (p.length + m.length) hh).mpr ⟨by omega, hc⟩) (h4 _ hlt)
    · by_cases he : i = p.length + m.length
      · exact he
      · exfalso
        apply h
        have e := h3'.2
        rw [List.getElem?_append_right (by omega), List.getElem?_append_right (by omega)] at e
        obtain ⟨k, hk⟩ : ∃ k, i - p.length - m.length = k + 1 := ⟨i - p.length - m.length - 1, by omega⟩
        rw [hk, List.getElem?_cons_succ, List.getElem?_append_left (by omega)] at e
        exact List.mem_of_getElem? e
theorem last_none (p m r : List Nat) (c : Nat) (h : c ∉ m) : Builtin.Str.lastOccurrence (S (p ++ (m ++ r))) (S [c]) p.length (p.length + m.length) = none := by
  have hh : p.length + m.length ≤ (p ++ (m ++ r)).length := by simp
  rcases last_spec2 (S (p ++ (m ++ r))) (S [c]) p.length (p.length + m.length) with ⟨h1, _⟩ | ⟨i, h1, h2, h3, h4⟩
  · exact h1
  · exfalso
    apply h
    have h3' := (at_iff _ c _ i hh).mp h3
    have e := h3'.2
    rw [List.getElem?_append_right (by omega), List.getElem?_append_left (by omega)] at e
    exact List.mem_of_getElem? e
theorem rfind_at (p q : List Nat) (c : Nat) (h : c ∉ q) : Txt.rfind (S (p ++ c :: q)) (S [c]) = (p.length : Int) := by
  have := last_at [] p q [] c h
  simp only [List.nil_append, List.append_nil, List.length_nil, Nat.zero_add] at this
  unfold Txt.rfind
  rw [S_len, show (p ++ c :: q).length = p.length + 1 + q.length by simp; omega, this]
theorem rfind_none (l : List Nat) (c : Nat) (h : c ∉ l) : Txt.rfind (S l) (S [c]) = -1 := by
  have := last_none [] l [] c h
  simp only [List.nil_append, List.append_nil, List.length_nil, Nat.zero_add] at this
  unfold Txt.rfind
  rw [S_len, this]
theorem rfind4_at (p m q r : List Nat) (c : Nat) (i j : Int) (hi : i = p.length) (hj : j = (p.length + m.length + 1 + q.length : Nat)) (h : c ∉ q) : rfind4 (S (p ++ (m ++ c :: (q ++ r)))) (S [c]) i j = ((p.length + m.length : Nat) : Int) := by
  subst hi hj
  unfold rfind4
  rw [fromIndex_nat, fromIndex_nat, S_len, Nat.min_eq_left (by simp; omega), last_at p m q r c h]
theorem rfind4_none (p m r : List Nat) (c : Nat) (i j : Int) (hi : i = p.length) (hj : j = (p.length + m.length : Nat)) (h : c ∉ m) : rfind4 (S (p ++ (m ++ r))) (S [c]) i j = -1 := by
  subst hi hj
  unfold rfind4
  rw [fromIndex_nat, fromIndex_nat, S_len, Nat.min_eq_left (by simp), last_none p m r c h]
theorem rfind4_ge (x y : Str) (i j : Int) : -1 ≤ rfind4 x y i j := by unfold rfind4; split <;> omega

open Builtin Builtin.Str in
theorem gives_rfind4 (x y : Str) (i j : Int) (t u v w : Tok) : Gives («str.rfind» ⟨[.str x t, .str y u, .int i v, .int j w], []⟩) (.int (rfind4 x y i j)) := by
  show Gives (match lastOccurrence x y (fromIndex x.length i) (min (fromIndex x.length j) x.length) with | some i => retInt i | none => (do rule "str.rfind.not-found"; retInt (-1))) _
  unfold rfind4
  cases lastOccurrence x y (fromIndex x.length i) (min (fromIndex x.length j) x.length) with
  | none => exact .rule (.of_eq rfl)
  | some i => exact .of_eq rfl
theorem call_rfind4 {prog : Program} {w : World} {A : Around} {E : Value → Shared → Prop} {s : Shared} {x y : Str} {t u v z : Tok} {i j : Int} {Q : Value → Shared → Prop}
    (hq : -1 ≤ rfind4 x y i j → Q (.int (rfind4 x y i j) s.toks) { s with toks := s.toks + 1 }) : wpAny (model prog w) A (call (.builtin "str.rfind") [.str x t, .str y u, .int i v, .int j z]) Q E s :=
  call_gives F.slot_str_rfind (typeIs_str _ _ _) F.entry_str_rfind (F.args_str_rfind_4 _ _ _ _) (gives_rfind4 x y i j t u v z) (hq (rfind4_ge x y i j))
end Mine
end
section
open PySem PySem.W PyProof.Rows
namespace Mine
/-! plain laws of join's loop -/
def catF (fs : List (List Nat)) : List Nat := (fs.map (· ++ [47])).flatten
theorem catF_nil : catF [] = [] := rfl
theorem catF_cons (f : List Nat) (fs : List (List Nat)) : catF (f :: fs) = f ++ 47 :: catF fs := by simp [catF]
theorem catF_append (a b : List (List Nat)) : catF (a ++ b) = catF a ++ catF b := by simp [catF]
theorem catF_snoc (fs : List (List Nat)) (d : List Nat) : catF (fs ++ [d]) = catF fs ++ (d ++ [47]) := by simp [catF]
/-- the address over a host -/
def adr (h : List Nat) (fs : List (List Nat)) (n : List Nat) : List Nat := h ++ (47 :: (catF fs ++ n))
def ups : Nat → List Nat
  | 0 => []
  | k + 1 => 46 :: 46 :: 47 :: ups k
def Clean (l : List Nat) : Prop := 47 ∉ l
def NoDot (rest : List Nat) : Prop := ∀ c r, rest = c :: r → c ≠ 46
def WInv (h : List Nat) (FS : List (List Nat)) (rest : List Nat) (path here : Str) (sl : Int) : Prop :=
  path.length ≤ 1000 ∧ here.length ≤ 1000 ∧ 0 ≤ sl ∧ sl < here.length ∧
  ∃ u fs n, (path = S (ups u ++ rest) ∨ (rest = [] ∧ ∃ k, u = k + 1 ∧ path = S (ups k ++ [46, 46]))) ∧ here = S (adr h fs n) ∧ sl = ((adr h fs []).length : Int) - 1 ∧
    (∀ f ∈ fs, Clean f) ∧ Clean n ∧ fs.take (fs.length - u) = FS
theorem lit_slash : Str.ofString "/" = S [47] := by decide +kernel
theorem lit_dotslash : Str.ofString "./" = S [46, 47] := by decide +kernel
theorem lit_dot : Str.ofString "." = S [46] := by decide +kernel
theorem lit_up : Str.ofString "../" = S [46, 46, 47] := by decide +kernel
theorem lit_dots : Str.ofString ".." = S [46, 46] := by decide +kernel
theorem lit_empty : Str.ofString "" = S [] := by decide +kernel

section
variable {h rest : List Nat} {FS : List (List Nat)} {path here : Str} {sl : Int}
theorem nodot_take {l : List Nat} (hr : NoDot l) (k : Nat) (a : List Nat) : l.take k ≠ 46 :: a := by
  intro e
  cases l with
  | nil => simp at e
  | cons c r =>
    cases k with
    | zero => simp at e
    | succ k => simp only [List.take_succ_cons, List.cons.injEq] at e; exact hr c r rfl e.1
theorem winv_c1 (hr : NoDot rest) (hi : WInv h FS rest path here sl) : (Txt.slice path none (some 2) == Str.ofString "./") = false := by
  obtain ⟨_, _, _, _, u, fs, n, hp, _⟩ := hi
  have key : ∀ l : List Nat, l.take 2 ≠ [46, 47] → (Txt.slice (S l) none (some 2) == Str.ofString "./") = false := fun l hl => by
    rw [show (2 : Int) = ((2 : Nat) : Int) from rfl, slice_to, lit_dotslash, S_beq]
    exact beq_false_of_ne hl
  rcases hp with rfl | ⟨_, k, _, rfl⟩
  · refine key _ ?_
    cases u with
    | zero => exact nodot_take hr 2 _
    | succ u => simp [ups]
  · refine key _ ?_
    cases k <;> simp [ups]
theorem winv_c2 (hr : NoDot rest) (hi : WInv h FS rest path here sl) : (path == Str.ofString ".") = false := by
  obtain ⟨_, _, _, _, u, fs, n, hp, _⟩ := hi
  have key : ∀ l : List Nat, l ≠ [46] → (S l == Str.ofString ".") = false := fun l hl => by
    rw [lit_dot, S_beq]
    exact beq_false_of_ne hl
  rcases hp with rfl | ⟨_, k, _, rfl⟩
  · refine key _ ?_
    cases u with
    | zero => exact fun e => hr 46 [] e rfl
    | succ u => simp [ups]
  · refine key _ ?_
    cases k <;> simp [ups]
theorem c3_iff (l : List Nat) : (Txt.slice (S l) none (some 3) == Str.ofString "../") = (l.take 3 == [46, 46, 47]) := by
  rw [show (3 : Int) = ((3 : Nat) : Int) from rfl, slice_to, lit_up, S_beq]
theorem c4_iff (l : List Nat) : (S l == Str.ofString "..") = (l == [46, 46]) := by rw [lit_dots, S_beq]
theorem from3 (l : List Nat) : Txt.slice (S l) (some 3) none = S (l.drop 3) := slice_from l 3
theorem path_turn {u : Nat} (hr : NoDot rest) (hp : path = S (ups u ++ rest) ∨ (rest = [] ∧ ∃ k, u = k + 1 ∧ path = S (ups k ++ [46, 46])))
    (hc : (Txt.slice path none (some 3) == Str.ofString "../") = true ∨ (path == Str.ofString "..") = true) :
    ∃ v, u = v + 1 ∧ (Txt.slice path (some 3) none = S (ups v ++ rest) ∨ (rest = [] ∧ ∃ k, v = k + 1 ∧ Txt.slice path (some 3) none = S (ups k ++ [46, 46]))) ∧ (Txt.slice path (some 3) none).length < path.length := by
  rcases hp with rfl | ⟨rfl, k, rfl, rfl⟩
  · rw [c3_iff, c4_iff] at hc
    cases u with
    | zero =>
      exfalso
      simp only [ups, List.nil_append] at hc
      rcases hc with hc | hc
      · exact nodot_take hr 3 _ (beq_iff_eq.mp hc)
      · exact hr 46 [46] (beq_iff_eq.mp hc) rfl
    | succ v =>
      refine ⟨v, rfl, .inl ?_, ?_⟩
      · rw [from3]; rfl
      · rw [from3, S_len, S_len]; simp [ups]; omega
  · cases k with
    | zero => exact ⟨0, rfl, .inl (by rw [from3]; rfl), by rw [from3, S_len, S_len]; simp [ups]⟩
    | succ k => exact ⟨k + 1, rfl, .inr ⟨rfl, k, rfl, by rw [from3]; rfl⟩, by rw [from3, S_len, S_len]; simp [ups]⟩
theorem winv_len (hr : NoDot rest) (hi : WInv h FS rest path here sl) (hc : (Txt.slice path none (some 3) == Str.ofString "../") = true ∨ (path == Str.ofString "..") = true) :
    (Txt.slice path (some 3) none).length < path.length := by
  obtain ⟨_, _, _, _, u, fs, n, hp, _⟩ := hi
  obtain ⟨_, _, _, hl⟩ := path_turn hr hp hc
  exact hl
theorem slash_end : ∀ fs : List (List Nat), ∃ m, 47 :: catF fs = m ++ [47] := fun fs => by
  rcases List.eq_nil_or_concat fs with rfl | ⟨a, b, rfl⟩
  · exact ⟨[], rfl⟩
  · exact ⟨47 :: (catF a ++ b), by rw [List.concat_eq_append, catF_snoc]; simp⟩
theorem here_nil (n : List Nat) (i j : Int) (hi : i = h.length) (hj : j = ((adr h [] []).length : Int) - 1) : rfind4 (S (adr h [] n)) (Str.ofString "/") i j = -1 := by
  have := rfind4_none h [] (47 :: n) 47 i j hi (by rw [hj]; simp [adr, catF_nil]) (by simp)
  simpa [adr, catF_nil, lit_slash] using this
theorem here_snoc (fs : List (List Nat)) (d n : List Nat) (hd : Clean d) (i j : Int) (hi : i = h.length) (hj : j = ((adr h (fs ++ [d]) []).length : Int) - 1) :
    rfind4 (S (adr h (fs ++ [d]) n)) (Str.ofString "/") i j = ((adr h fs []).length : Int) - 1 ∧
    Txt.slice (S (adr h (fs ++ [d]) n)) none (some ((((adr h fs []).length : Int) - 1) + 1)) = S (adr h fs []) := by
  obtain ⟨m, hm⟩ := slash_end fs
  have e1 : adr h (fs ++ [d]) n = h ++ (m ++ 47 :: (d ++ (47 :: n))) := by
    unfold adr
    rw [catF_snoc]
    have : 47 :: (catF fs ++ (d ++ [47]) ++ n) = (47 :: catF fs) ++ (d ++ 47 :: n) := by simp
    rw [this, hm]; simp
  have e2 : adr h fs [] = h ++ (m ++ [47]) := by unfold adr; rw [List.append_nil, hm]
  have l2 : (adr h fs []).length = h.length + m.length + 1 := by rw [e2]; simp; omega
  have l3 : (adr h (fs ++ [d]) []).length = h.length + m.length + 1 + d.length + 1 := by
    have : adr h (fs ++ [d]) [] = h ++ ((47 :: catF fs) ++ (d ++ [47])) := by unfold adr; rw [catF_snoc]; simp
    rw [this, hm]; simp; omega
  constructor
  · rw [e1, lit_slash, rfind4_at h m d (47 :: n) 47 i j hi (by rw [hj, l3]; omega) hd, l2]
    omega
  · have : (((adr h fs []).length : Int) - 1) + 1 = ((adr h fs []).length : Nat) := by omega
    rw [this, slice_to, e1, l2, e2]
    congr 1
    have : h ++ (m ++ 47 :: (d ++ 47 :: n)) = (h ++ (m ++ [47])) ++ (d ++ 47 :: n) := by simp
    rw [this, List.take_append_of_le_length (by simp; omega), List.take_of_length_le (by simp; omega)]
theorem adr_len_pos (h : List Nat) (fs : List (List Nat)) (n : List Nat) : (adr h fs []).length ≤ (adr h fs n).length ∧ 1 ≤ (adr h fs []).length := by simp [adr]; omega
theorem winv_up1 {bp : Int} (hr : NoDot rest) (hi : WInv h FS rest path here sl) (hc : (Txt.slice path none (some 3) == Str.ofString "../") = true ∨ (path == Str.ofString "..") = true)
    (hb : bp = h.length) (h0 : 0 ≤ rfind4 here (Str.ofString "/") bp sl) :
    WInv h FS rest (Txt.slice path (some 3) none) (Txt.slice here none (some (rfind4 here (Str.ofString "/") bp sl + 1))) (rfind4 here (Str.ofString "/") bp sl) := by
  obtain ⟨q1, q2, _, _, u, fs, n, hp, rfl, hs, hcl, hn, hF⟩ := hi
  obtain ⟨v, rfl, hp', hl⟩ := path_turn hr hp hc
  rcases List.eq_nil_or_concat fs with rfl | ⟨a, d, rfl⟩
  · rw [here_nil n bp sl hb hs] at h0; omega
  · rw [List.concat_eq_append] at *
    obtain ⟨k1, k2⟩ := here_snoc a d n (hcl d (by simp)) bp sl hb hs
    rw [k1, k2]
    have hp2 := adr_len_pos h a []
    have hle : (adr h a []).length ≤ (adr h (a ++ [d]) n).length := by simp only [adr, catF_snoc, List.length_append, List.length_cons]; omega
    rw [S_len] at q2
    refine ⟨by omega, by rw [S_len]; omega, by omega, by rw [S_len]; omega, v, a, [], hp', rfl, rfl, fun f hf => hcl f (by simp [hf]), (by simp [Clean]), ?_⟩
    rw [← hF, List.length_append, List.length_singleton, show a.length + 1 - (v + 1) = a.length - v by omega, List.take_append_of_le_length (by omega)]
theorem winv_up0 {bp : Int} (hr : NoDot rest) (hi : WInv h FS rest path here sl) (hc : (Txt.slice path none (some 3) == Str.ofString "../") = true ∨ (path == Str.ofString "..") = true)
    (hb : bp = h.length) (h0 : ¬ 0 ≤ rfind4 here (Str.ofString "/") bp sl) : WInv h FS rest (Txt.slice path (some 3) none) here sl := by
  obtain ⟨q1, q2, q3, q4, u, fs, n, hp, rfl, hs, hcl, hn, hF⟩ := hi
  obtain ⟨v, rfl, hp', hl⟩ := path_turn hr hp hc
  rcases List.eq_nil_or_concat fs with rfl | ⟨a, d, rfl⟩
  · exact ⟨by omega, q2, q3, q4, v, [], n, hp', rfl, hs, hcl, hn, by simpa using hF⟩
  · rw [List.concat_eq_append] at *
    obtain ⟨k1, k2⟩ := here_snoc a d n (hcl d (by simp)) bp sl hb hs
    rw [k1] at h0
    have := adr_len_pos h a []
    omega
theorem winv_done (hi : WInv h FS rest path here sl) (h3 : ¬ (Txt.slice path none (some 3) == Str.ofString "../") = true) (h4 : ¬ (path == Str.ofString "..") = true) :
    path = S rest ∧ Txt.slice here none (some (sl + 1)) = S (adr h FS []) := by
  obtain ⟨q1, q2, q3, q4, u, fs, n, hp, rfl, hs, hcl, hn, hF⟩ := hi
  have hu : u = 0 ∧ path = S rest := by
    rcases hp with rfl | ⟨rfl, k, rfl, rfl⟩
    · cases u with
      | zero => exact ⟨rfl, rfl⟩
      | succ v => rw [c3_iff] at h3; exact absurd (by simp [ups]) h3
    · cases k with
      | zero => rw [c4_iff] at h4; exact absurd (by simp [ups]) h4
      | succ v => rw [c3_iff] at h3; exact absurd (by simp [ups]) h3
  obtain ⟨rfl, rfl⟩ := hu
  refine ⟨rfl, ?_⟩
  have hF' : fs = FS := by rw [← hF, Nat.sub_zero, List.take_length]
  subst hF'
  have := adr_len_pos h fs n
  rw [show sl + 1 = ((adr h fs []).length : Nat) by omega, slice_to]
  congr 1
  have e : adr h fs n = adr h fs [] ++ n := by simp [adr]
  rw [e, List.take_append_of_le_length (Nat.le_refl _), List.take_length]
theorem winv_fin {f : Str} (hi : WInv h FS rest path here sl) (h3 : (Txt.slice path none (some 3) == Str.ofString "../") = false) (h4 : (path == Str.ofString "..") = false) :
    Txt.slice here none (some (sl + 1)) ++ path ++ f = S (adr h FS rest) ++ f := by
  obtain ⟨e1, e2⟩ := winv_done hi (by rw [h3]; decide) (by rw [h4]; decide)
  rw [e1, e2, S_app]
  simp [adr]
theorem adr_split (h : List Nat) (fs : List (List Nat)) (n : List Nat) : adr h fs n = adr h fs [] ++ n := by simp [adr]
end
end Mine
end
section
open PySem PySem.W PyProof.Rows PySem.Calls
namespace Mine
def JoinGives (w : World) (here there r : Str) : Prop :=
  ∀ (p : Program) (loose : List Str) (mean : ExcName → Option Value) (mg mb : Str → Option Value) (t1 t2 : Tok) (news : List (Addr × Obj)) (dp un : Nat) (gd : Option (List Code)) (cn : Str) (cs : Scope) (a : Addr) (ccd : Value) (cl : List (Str × Addr)) (outer : List Env) (A₀ : Around) (base h₀ : Heap) (L : Addr) (m : Str → Option Value) (s : Shared) (Q E : Value → Shared → Prop),
    Below A₀ base outer h₀ → Fr h₀ L s.heap m → (Mine.hd.heap_39 w.params).In h₀ → News h₀ L s.heap news → Top p loose mean mg mb h₀ → cs.kind = .function →
    dp + 1 < recursionLimit → un + 8 < cLine →
    (∀ (t : Tok) (h' : Heap) (tk' : Nat), Fr h₀ L h' m → News h₀ L h' news → Q (.str r t) { s with heap := h', toks := tk' }) →
      wpAny (model PySem.Challenge.rw_er0021_01.row.prog w) (ktrTop dp un gd cn cs L a ccd cl outer) (call (.ref 29) [.str here t1, .str there t2]) Q E s
local macro_rules | `(tactic| walk_at "call ref") => `(tactic| (k_here; k_dflt (refine wpAny_call ?_; refine' code_def ?k1 ?k2 ?k3 ?k4 ?k5 ?kA ?kF ?kK ?k6 ?k7 ?k8 ?k9 ?kB ?_ ?c2 ?c3 ?c4 ?c5; (case kA => exact rfl); (case kF => exact rfl); (case kK => exact rfl); (case k1 => k_asm); (case k2 => k_asm); (case k3 => k_asm); (case k4 => k_asm); (case k5 => k_asm); (case k6 => k_is); (case k7 => k_is); (case k8 => ktr_room); (case k9 => first | exact BindsTo.of_eq rfl | exact binds_K (by k_in) rfl (by k_is) rfl rfl rfl); (case c5 => decide); (case kB => exact locs rfl); (case c2 => exact rfl); (case c3 => exact rfl); (case c4 => exact rfl); k_whole; intro g' L' h' FG' F' N' B' X' T'; (try dsimp only); (try k_lift B'); (try k_fold))))
local macro_rules | `(tactic| walk_at "call builtin:str.rfind") => `(tactic| ((with_reducible show wpAny _ _ (call (Value.builtin _) [Value.str _ _, Value.str _ _, Value.int _ _, Value.int _ _]) _ _ _); refine call_rfind4 ?_; intro hrf))
set_option maxRecDepth 100000 in
set_option maxHeartbeats 8000000 in
theorem join_abs (w : World) (here there : Str)
    (hl2 : there.length ≤ 1000) (h0 : 0 ≤ Txt.find there (Str.ofString ":")) (h1 : ¬ Txt.find there (Str.ofString "/") < 0) (h2 : Txt.find there (Str.ofString ":") < Txt.find there (Str.ofString "/")) : JoinGives w here there there := by
  w_strict (
    w_top off
    unfold JoinGives
    k_fill
    intros; rename_i hret
    refine wpAny_call ?_
    k_dflt cell_enter
    repeat' (first | (k_unfold; (try dsimp only)) | walk1 | (dsimp only; walk1) | fail "no step")
    all_goals (first
      | (exfalso; omega)
      | (refine cb_retS hret ?e (by with_reducible assumption) (by first | with_reducible assumption | (refine cb_drop (by with_reducible assumption) (by first | (with_reducible exact fun _ hp => hp) | (with_reducible exact fun _ hp => List.mem_cons_of_mem _ hp) | (with_reducible exact fun _ hp => List.mem_cons_of_mem _ (List.mem_cons_of_mem _ hp)) | kcj_all))); (case e => rfl))))
set_option maxRecDepth 100000 in
set_option maxHeartbeats 8000000 in
theorem join_empty (w : World) (here there : Str)
    (hl1 : here.length ≤ 1000) (hl2 : there.length ≤ 1000)
    (hna : Txt.find there (Str.ofString ":") < 0)
    (hnf : ¬ 0 ≤ Txt.rfind there (Str.ofString "#"))
    (hb : 0 ≤ Txt.find here (Str.ofString ":")) (hne : (there.length : Int) = 0) : JoinGives w here there (here ++ Str.ofString "") := by
  w_strict (
    w_top off
    unfold JoinGives
    k_fill
    intros; rename_i hret
    refine wpAny_call ?_
    k_dflt cell_enter
    repeat' (first | (k_unfold; (try dsimp only)) | walk1 | (dsimp only; walk1) | fail "no step")
    all_goals (first
      | (exfalso; omega)
      | (refine cb_retS hret ?e (by with_reducible assumption) (by first | with_reducible assumption | (refine cb_drop (by with_reducible assumption) (by first | (with_reducible exact fun _ hp => hp) | (with_reducible exact fun _ hp => List.mem_cons_of_mem _ hp) | (with_reducible exact fun _ hp => List.mem_cons_of_mem _ (List.mem_cons_of_mem _ hp)) | kcj_all))); (case e => rfl))))
set_option maxRecDepth 100000 in
set_option maxHeartbeats 8000000 in
theorem join_frag (w : World) (here there : Str)
    (hl1 : here.length ≤ 1000) (hl2 : there.length ≤ 1000)
    (hna : Txt.find there (Str.ofString ":") < 0)
    (hf : 0 ≤ Txt.rfind there (Str.ofString "#")) (hb : 0 ≤ Txt.find here (Str.ofString ":")) (hne : ((Txt.slice there none (some (Txt.rfind there (Str.ofString "#")))).length : Int) = 0) : JoinGives w here there (here ++ Txt.slice there (some (Txt.rfind there (Str.ofString "#"))) none) := by
  w_strict (
    w_top off
    unfold JoinGives
    k_fill
    intros; rename_i hret
    refine wpAny_call ?_
    k_dflt cell_enter
    repeat' (first | (k_unfold; (try dsimp only)) | walk1 | (dsimp only; walk1) | fail "no step")
    all_goals (first
      | (exfalso; omega)
      | (refine cb_retS hret ?e (by with_reducible assumption) (by first | with_reducible assumption | (refine cb_drop (by with_reducible assumption) (by first | (with_reducible exact fun _ hp => hp) | (with_reducible exact fun _ hp => List.mem_cons_of_mem _ hp) | (with_reducible exact fun _ hp => List.mem_cons_of_mem _ (List.mem_cons_of_mem _ hp)) | kcj_all))); (case e => rfl))))
set_option maxRecDepth 100000 in
set_option maxHeartbeats 8000000 in
theorem join_net (w : World) (here there : Str)
    (hl1 : here.length ≤ 1000) (hl2 : there.length ≤ 1000)
    (hb : 0 ≤ Txt.find here (Str.ofString ":"))
    (hs1 : (Txt.slice here (some (Txt.find here (Str.ofString ":") + 1)) (some (Txt.find here (Str.ofString ":") + 2)) != Str.ofString "/") = false)
    (hs2 : (Txt.slice here (some (Txt.find here (Str.ofString ":") + 1)) (some (Txt.find here (Str.ofString ":") + 3)) == Str.ofString "//") = true)
    (hbp : ¬ Txt.find3 here (Str.ofString "/") (Txt.find here (Str.ofString ":") + 3) < 0)
    (hna : Txt.find there (Str.ofString ":") < 0 ∨ (0 ≤ Txt.find there (Str.ofString ":") ∧ ¬ Txt.find there (Str.ofString "/") < 0 ∧ ¬ Txt.find there (Str.ofString ":") < Txt.find there (Str.ofString "/")))
    (hnf : ¬ 0 ≤ Txt.rfind there (Str.ofString "#"))
    (hne : (there.length : Int) ≠ 0)
    (ht2 : (Txt.slice there none (some 2) == Str.ofString "//") = true) : JoinGives w here there (Txt.slice here none (some (Txt.find here (Str.ofString ":") + 1)) ++ there) := by
  w_strict (
    w_top off
    unfold JoinGives
    k_fill
    rcases hna with hna | ⟨hna, hna2, hna3⟩
    all_goals (
    intros; rename_i hret
    refine wpAny_call ?_
    k_dflt cell_enter
    repeat' (first | (k_unfold; (try dsimp only)) | walk1 | (dsimp only; walk1) | fail "no step")
    all_goals (first
      | (exfalso; omega)
      | (refine cb_retS hret ?e (by with_reducible assumption) (by first | with_reducible assumption | (refine cb_drop (by with_reducible assumption) (by first | (with_reducible exact fun _ hp => hp) | (with_reducible exact fun _ hp => List.mem_cons_of_mem _ hp) | (with_reducible exact fun _ hp => List.mem_cons_of_mem _ (List.mem_cons_of_mem _ hp)) | kcj_all))); (case e => rfl)))))
set_option maxRecDepth 100000 in
set_option maxHeartbeats 8000000 in
theorem join_root (w : World) (here there : Str)
    (hl1 : here.length ≤ 1000) (hl2 : there.length ≤ 1000)
    (hb : 0 ≤ Txt.find here (Str.ofString ":"))
    (hs1 : (Txt.slice here (some (Txt.find here (Str.ofString ":") + 1)) (some (Txt.find here (Str.ofString ":") + 2)) != Str.ofString "/") = false)
    (hs2 : (Txt.slice here (some (Txt.find here (Str.ofString ":") + 1)) (some (Txt.find here (Str.ofString ":") + 3)) == Str.ofString "//") = true)
    (hbp : ¬ Txt.find3 here (Str.ofString "/") (Txt.find here (Str.ofString ":") + 3) < 0)
    (hna : Txt.find there (Str.ofString ":") < 0 ∨ (0 ≤ Txt.find there (Str.ofString ":") ∧ ¬ Txt.find there (Str.ofString "/") < 0 ∧ ¬ Txt.find there (Str.ofString ":") < Txt.find there (Str.ofString "/")))
    (hnf : ¬ 0 ≤ Txt.rfind there (Str.ofString "#"))
    (hne : (there.length : Int) ≠ 0)
    (ht2 : (Txt.slice there none (some 2) == Str.ofString "//") = false) (ht1 : (Txt.slice there none (some 1) == Str.ofString "/") = true) : JoinGives w here there (Txt.slice here none (some (Txt.find3 here (Str.ofString "/") (Txt.find here (Str.ofString ":") + 3))) ++ there) := by
  w_strict (
    w_top off
    unfold JoinGives
    k_fill
    rcases hna with hna | ⟨hna, hna2, hna3⟩
    all_goals (
    intros; rename_i hret
    refine wpAny_call ?_
    k_dflt cell_enter
    repeat' (first | (k_unfold; (try dsimp only)) | walk1 | (dsimp only; walk1) | fail "no step")
    all_goals (first
      | (exfalso; omega)
      | (refine cb_retS hret ?e (by with_reducible assumption) (by first | with_reducible assumption | (refine cb_drop (by with_reducible assumption) (by first | (with_reducible exact fun _ hp => hp) | (with_reducible exact fun _ hp => List.mem_cons_of_mem _ hp) | (with_reducible exact fun _ hp => List.mem_cons_of_mem _ (List.mem_cons_of_mem _ hp)) | kcj_all))); (case e => rfl)))))
set_option maxRecDepth 100000 in
set_option maxHeartbeats 8000000 in
theorem join_rel (w : World) (here there : Str)
    (hl1 : here.length ≤ 1000) (hl2 : there.length ≤ 1000)
    (hb : 0 ≤ Txt.find here (Str.ofString ":"))
    (hs1 : (Txt.slice here (some (Txt.find here (Str.ofString ":") + 1)) (some (Txt.find here (Str.ofString ":") + 2)) != Str.ofString "/") = false)
    (hs2 : (Txt.slice here (some (Txt.find here (Str.ofString ":") + 1)) (some (Txt.find here (Str.ofString ":") + 3)) == Str.ofString "//") = true)
    (hbp : ¬ Txt.find3 here (Str.ofString "/") (Txt.find here (Str.ofString ":") + 3) < 0)
    (hna : Txt.find there (Str.ofString ":") < 0 ∨ (0 ≤ Txt.find there (Str.ofString ":") ∧ ¬ Txt.find there (Str.ofString "/") < 0 ∧ ¬ Txt.find there (Str.ofString ":") < Txt.find there (Str.ofString "/")))
    (hnf : ¬ 0 ≤ Txt.rfind there (Str.ofString "#"))
    (hne : (there.length : Int) ≠ 0)
    (ht2 : (Txt.slice there none (some 2) == Str.ofString "//") = false) (ht1 : (Txt.slice there none (some 1) == Str.ofString "/") = false)
    (h : List Nat) (FS : List (List Nat)) (rest : List Nat) (hrest : NoDot rest) (hbv : Txt.find3 here (Str.ofString "/") (Txt.find here (Str.ofString ":") + 3) = (h.length : Int))
    (hw : WInv h FS rest there here (Txt.rfind here (Str.ofString "/"))) : JoinGives w here there (S (adr h FS rest)) := by
  w_strict (
    w_top off
    unfold JoinGives
    k_fill
    rcases hna with hna | ⟨hna, hna2, hna3⟩
    all_goals (
    intros; rename_i hret
    refine wpAny_call ?_
    k_dflt cell_enter
    repeat' ((fail_if_success (with_reducible show wpAny _ _ (exec (Stmt.While _ _ _ _) _) _ _ _)); first | (k_unfold; (try dsimp only)) | walk1 | (dsimp only; walk1) | fail "no step")
    all_goals (try (exfalso; omega))
    k_while (fun (_ : List Int) (path here' : Str) (sl : Int) => WInv h FS rest path here' sl) (fun _ path _ _ => path.length) "path" "here" "slashr"
    have hc1 := winv_c1 hrest kInv
    have hc2 := winv_c2 hrest kInv
    have hbv' := hbv
    obtain ⟨kl1, kl2, kl3, kl4, _⟩ := id kInv
    repeat' ((fail_if_success (with_reducible show KswEnd _ _ _ _ _ _ _ _ _ _ _ _)); first | (k_unfold; (try dsimp only)) | walk1 | (dsimp only; walk1) | fail "no step")
    all_goals (first
      | ((with_reducible show KswEnd _ _ _ _ _ _ _ _ _ _ _ _); (rename News _ _ _ _ => nE'); (refine ksw_end ⟨_, _, _, _, _, _⟩ (by with_reducible assumption) nE' (by first | (with_reducible exact fun _ hp => hp) | ((try dsimp only); with_reducible exact fun _ hp => hp) | kst_in) (by kst_facts) (by kst_all) (by ksw_same) ?P ?M); (case P => (try dsimp only); with_reducible first | exact winv_up1 hrest kInv (.inl (by assumption)) hbv' (by assumption) | exact winv_up1 hrest kInv (.inr (by assumption)) hbv' (by assumption) | exact winv_up0 hrest kInv (.inl (by assumption)) hbv' (by assumption) | exact winv_up0 hrest kInv (.inr (by assumption)) hbv' (by assumption)); (case M => (try dsimp only); with_reducible first | exact winv_len hrest kInv (.inl (by assumption)) | exact winv_len hrest kInv (.inr (by assumption))))
      | (refine cb_retS hret ?e (by with_reducible assumption) (by first | with_reducible assumption | (refine cb_drop (by with_reducible assumption) (by first | (with_reducible exact fun _ hp => hp) | (with_reducible exact fun _ hp => List.mem_cons_of_mem _ hp) | (with_reducible exact fun _ hp => List.mem_cons_of_mem _ (List.mem_cons_of_mem _ hp)) | kcj_all))); (case e => (rw [winv_fin kInv (by with_reducible assumption) (by with_reducible assumption), lit_empty, S_app, List.append_nil]))))))
set_option maxRecDepth 100000 in
set_option maxHeartbeats 8000000 in
theorem join_relf (w : World) (here there : Str)
    (hl1 : here.length ≤ 1000) (hl2 : there.length ≤ 1000)
    (hb : 0 ≤ Txt.find here (Str.ofString ":"))
    (hs1 : (Txt.slice here (some (Txt.find here (Str.ofString ":") + 1)) (some (Txt.find here (Str.ofString ":") + 2)) != Str.ofString "/") = false)
    (hs2 : (Txt.slice here (some (Txt.find here (Str.ofString ":") + 1)) (some (Txt.find here (Str.ofString ":") + 3)) == Str.ofString "//") = true)
    (hbp : ¬ Txt.find3 here (Str.ofString "/") (Txt.find here (Str.ofString ":") + 3) < 0)
    (hna : Txt.find there (Str.ofString ":") < 0)
    (hnf : 0 ≤ Txt.rfind there (Str.ofString "#")) (hne : ((Txt.slice there none (some (Txt.rfind there (Str.ofString "#")))).length : Int) ≠ 0)
    (ht2 : (Txt.slice there none (some 2) == Str.ofString "//") = false) (ht1 : (Txt.slice there none (some 1) == Str.ofString "/") = false)
    (h : List Nat) (FS : List (List Nat)) (rest : List Nat) (hrest : NoDot rest) (hbv : Txt.find3 here (Str.ofString "/") (Txt.find here (Str.ofString ":") + 3) = (h.length : Int))
    (f : List Nat) (hfr : Txt.slice there (some (Txt.rfind there (Str.ofString "#"))) none = S f)
    (hw : WInv h FS rest (Txt.slice there none (some (Txt.rfind there (Str.ofString "#")))) here (Txt.rfind here (Str.ofString "/"))) : JoinGives w here there (S (adr h FS rest ++ f)) := by
  w_strict (
    w_top off
    unfold JoinGives
    k_fill
    intros; rename_i hret
    refine wpAny_call ?_
    k_dflt cell_enter
    repeat' ((fail_if_success (with_reducible show wpAny _ _ (exec (Stmt.While _ _ _ _) _) _ _ _)); first | (k_unfold; (try dsimp only)) | walk1 | (dsimp only; walk1) | fail "no step")
    (rename Fr _ _ _ _ => zzF); clear zzF
    repeat' ((fail_if_success (with_reducible show wpAny _ _ (exec (Stmt.While _ _ _ _) _) _ _ _)); first | (k_unfold; (try dsimp only)) | walk1 | (dsimp only; walk1) | fail "no step")
    all_goals (try (exfalso; omega))
    k_while (fun (_ : List Int) (path here' : Str) (sl : Int) => WInv h FS rest path here' sl) (fun _ path _ _ => path.length) "path" "here" "slashr"
    have hc1 := winv_c1 hrest kInv
    have hc2 := winv_c2 hrest kInv
    have hbv' := hbv
    obtain ⟨kl1, kl2, kl3, kl4, _⟩ := id kInv
    repeat' ((fail_if_success (with_reducible show KswEnd _ _ _ _ _ _ _ _ _ _ _ _)); first | (k_unfold; (try dsimp only)) | walk1 | (dsimp only; walk1) | fail "no step")
    all_goals (first
      | ((with_reducible show KswEnd _ _ _ _ _ _ _ _ _ _ _ _); (rename News _ _ _ _ => nE'); (refine ksw_end ⟨_, _, _, _, _, _⟩ (by with_reducible assumption) nE' (by first | (with_reducible exact fun _ hp => hp) | ((try dsimp only); with_reducible exact fun _ hp => hp) | kst_in) (by kst_facts) (by kst_all) (by ksw_same) ?P ?M); (case P => (try dsimp only); with_reducible first | exact winv_up1 hrest kInv (.inl (by assumption)) hbv' (by assumption) | exact winv_up1 hrest kInv (.inr (by assumption)) hbv' (by assumption) | exact winv_up0 hrest kInv (.inl (by assumption)) hbv' (by assumption) | exact winv_up0 hrest kInv (.inr (by assumption)) hbv' (by assumption)); (case M => (try dsimp only); with_reducible first | exact winv_len hrest kInv (.inl (by assumption)) | exact winv_len hrest kInv (.inr (by assumption))))
      | (refine cb_retS hret ?e (by with_reducible assumption) (by first | with_reducible assumption | (refine cb_drop (by with_reducible assumption) (by first | (with_reducible exact fun _ hp => hp) | (with_reducible exact fun _ hp => List.mem_cons_of_mem _ hp) | (with_reducible exact fun _ hp => List.mem_cons_of_mem _ (List.mem_cons_of_mem _ hp)) | kcj_all))); (case e => (rw [winv_fin kInv (by with_reducible assumption) (by with_reducible assumption), hfr, S_app])))))
end Mine
end
section
open PySem PySem.W PyProof.Rows PySem.Calls PySem.Spec
namespace Mine
theorem glued_flat (l : List Str) : (Builtin.Str.glued (Str.ofString "") l).cps.toList = (l.map (·.cps.toList)).flatten := by
  have e0 : (Str.ofString "").cps = #[] := by decide +kernel
  cases l with
  | nil => decide +kernel
  | cons x r =>
    show (List.foldl (fun acc p => acc ++ (Str.ofString "").cps ++ p.cps) x.cps r).toList = _
    have key : ∀ (r : List Str) (a : Array Nat), (List.foldl (fun acc (p : Str) => acc ++ (Str.ofString "").cps ++ p.cps) a r).toList = a.toList ++ (r.map (·.cps.toList)).flatten := by
      intro r
      induction r with
      | nil => intro a; simp
      | cons y r ih => intro a; rw [List.foldl_cons, ih, e0]; simp
    rw [key]; simp
theorem join_cat (fs : List Str) : Txt.join (Str.ofString "") (fs.map (· ++ Str.ofString "/")) = S (catF (fs.map (·.cps.toList))) := by
  have h := glued_flat (fs.map (· ++ Str.ofString "/"))
  have e : Txt.join (Str.ofString "") (fs.map (· ++ Str.ofString "/")) = S (Txt.join (Str.ofString "") (fs.map (· ++ Str.ofString "/"))).cps.toList := (S_list _).symm
  rw [e]
  show S (Builtin.Str.glued (Str.ofString "") (fs.map (· ++ Str.ofString "/"))).cps.toList = _
  rw [h]
  congr 1
  unfold catF
  congr 1
  rw [List.map_map, List.map_map]
  refine List.map_congr_left fun a _ => ?_
  have e1 : (Str.ofString "/").cps = #[47] := by decide +kernel
  simp [Str.cps_append, e1]
theorem mem_len {a : Str} {fs : List Str} {k : Nat} (h1 : ∀ f ∈ fs, f.length ≤ k) (h2 : a ∈ List.map (fun a => a) fs) : a.length ≤ k := h1 a (by simpa using h2)
theorem slash_len : (Str.ofString "/").length = 1 := by decide +kernel
theorem empty_len : (Str.ofString "").length = 0 := by decide +kernel
theorem catF_len (fs : List Str) (k : Nat) (h : ∀ f ∈ fs, f.length ≤ k) : (catF (fs.map (·.cps.toList))).length ≤ (k + 1) * fs.length := by
  induction fs with
  | nil => simp [catF]
  | cons f r ih =>
    have h1 := ih fun g hg => h g (List.mem_cons_of_mem _ hg)
    have h2 := h f (List.mem_cons_self ..)
    rw [List.map_cons, catF_cons]
    simp only [List.length_append, List.length_cons, Str.length, Array.length_toList] at *
    rw [Nat.mul_succ]; omega
def wr (host : Str) (fs : List Str) (name : Str) : Str := S (adr host.cps.toList (fs.map (·.cps.toList)) name.cps.toList)
theorem wr_eq {host name J : Str} {fs : List Str} (h : J = S (catF (fs.map (·.cps.toList)))) : host ++ Str.ofString "/" ++ J ++ name = wr host fs name := by
  subst h
  rw [← S_list host, ← S_list name, lit_slash, S_app, S_app, S_app]
  simp [wr, adr, S]
section
variable {prog : Program} {w : World} {A : Around} {E : Value → Shared → Prop} {s : Shared} {t : Tok} {D : Addr} {ys : List Value} {fs : List Str} {Q : Value → Shared → Prop}
theorem my_join (hl : s.heap.IsList D ys.toArray) (hn : fs.length ≤ 60) (hb : ∀ f ∈ fs, f.length ≤ 4) (hc : CarriedAll ys (fs.map fun a => PyData.str (a ++ Str.ofString "/")))
    (hq : ∀ t' k (J : Str), J = S (catF (fs.map (·.cps.toList))) → J.length ≤ 300 → Q (.str J t') { s with toks := k }) :
    wpAny (model prog w) A (call (.builtin "str.join") [.str (Str.ofString "") t, .ref D]) Q E s := by
  refine KT.join_B 5 hl hc (fun a ha => ?_) (by omega) (by decide +kernel) fun t' k => hq t' k _ (join_cat fs) ?_
  · rw [Str.length_append, slash_len]; have := hb a ha; omega
  · show (Txt.join (Str.ofString "") (fs.map (· ++ Str.ofString "/"))).length ≤ 300
    rw [join_cat, S_len]
    have := catF_len fs 4 hb
    omega
end
end Mine
end
section
open PySem PySem.W PyProof.Rows PySem.Calls
namespace Mine
def drawV (ns : List Int) (k : Int) : Int := (if ns = [] then 0 else ns.getD (k.fmod ns.length).toNat 0) + 7 * k
def DrawOk (w : World) (p : Program) (loose : List Str) (mean : ExcName → Option Value) (mg mb : Str → Option Value) (ns : List Int) (vs : List Value) (l : Addr) (e1 e2 e3 : Addr × Obj) : Prop :=
  ∀ (rest : List (Addr × Obj)) (k : Int) (t : Tok) (dp un : Nat) (gd : Option (List Code)) (cn : Str) (cs : Scope) (a : Addr) (ccd : Value) (cl : List (Str × Addr)) (outer : List Env) (A₀ : Around) (base h₀ : Heap) (L : Addr) (m : Str → Option Value) (s : Shared) (Q E : Value → Shared → Prop),
    Below A₀ base outer h₀ → Fr h₀ L s.heap m → (Mine.hd.heap_39 w.params).In h₀ → News h₀ L s.heap (e1 :: e2 :: e3 :: rest) → Top p loose mean mg mb h₀ → base.IsList l vs.toArray → IntsAre vs ns → ns.length < 2 ^ 62 → ns.length ≤ 63 → cs.kind = .function →
    0 ≤ k → k ≤ 100 → dp + 2 < recursionLimit → un + 16 < cLine →
    (∀ (t : Tok) (h' : Heap) (tk' : Nat), Fr h₀ L h' m → News h₀ L h' (e1 :: e2 :: e3 :: rest) → Q (.int (drawV ns k) t) { s with heap := h', toks := tk' }) →
      wpAny (model PySem.Challenge.rw_er0021_01.row.prog w) (ktrTop dp un gd cn cs L a ccd cl outer) (call (.ref e1.1) [.int k t]) Q E s
def WrittenOk (w : World) (p : Program) (loose : List Str) (mean : ExcName → Option Value) (mg mb : Str → Option Value) (e1 e2 : Addr × Obj) : Prop :=
  ∀ (rest : List (Addr × Obj)) (host : Str) (t1 : Tok) (l : Addr) (vs : List Value) (n : Nat) (fs : List Str) (name : Str) (t2 : Tok) (dp un : Nat) (gd : Option (List Code)) (cn : Str) (cs : Scope) (a : Addr) (ccd : Value) (cl : List (Str × Addr)) (outer : List Env) (A₀ : Around) (base h₀ : Heap) (L : Addr) (m : Str → Option Value) (s : Shared) (Q E : Value → Shared → Prop),
    Below A₀ base outer h₀ → Fr h₀ L s.heap m → (Mine.hd.heap_39 w.params).In h₀ → News h₀ L s.heap (e1 :: e2 :: (l, listOf vs.toArray n) :: rest) → Top p loose mean mg mb h₀ → cs.kind = .function →
    CarriedAll vs (fs.map fun y => PyData.str y) → fs.length ≤ 60 → (∀ f ∈ fs, f.length ≤ 4) → host.length ≤ 100 → name.length ≤ 100 →
    dp + 2 < recursionLimit → un + 16 < cLine →
    (∀ (t : Tok) (h' : Heap) (tk' : Nat), Fr h₀ L h' m → News h₀ L h' (e1 :: e2 :: (l, listOf vs.toArray n) :: rest) → Q (.str (wr host fs name) t) { s with heap := h', toks := tk' }) →
      wpAny (model PySem.Challenge.rw_er0021_01.row.prog w) (ktrTop dp un gd cn cs L a ccd cl outer) (call (.ref e1.1) [.str host t1, .ref l, .str name t2]) Q E s
theorem draw_intro {w : World} {p : Program} {loose : List Str} {mean : ExcName → Option Value} {mg mb : Str → Option Value} {ns : List Int} {vs : List Value} {l : Addr} {h₀ h : Heap} {L : Addr} {e1 e2 e3 e4 e5 e6 e7 e8 : Addr × Obj} {P : Prop}
    (u9X : (Mine.hd.heap_39 w.params).In h₀) (u9hI : IntsAre vs ns) (u9hl : h₀.IsList l vs.toArray) (u9T : Top p loose mean mg mb h₀) (u9N : News h₀ L h [e1, e2, e3, e4, e5, e6, e7, e8]) (D : DrawOk w p loose mean mg mb ns vs l e3 e4 e7) (W : WrittenOk w p loose mean mg mb e1 e2) (k : DrawOk w p loose mean mg mb ns vs l e3 e4 e7 → WrittenOk w p loose mean mg mb e1 e2 → P) : P := k D W
section
variable {w : World} {p : Program} {loose : List Str} {mean : ExcName → Option Value} {mg mb : Str → Option Value} {dp un : Nat} {gd : Option (List Code)} {cn : Str} {cs : Scope} {a : Addr} {ccd : Value} {cl : List (Str × Addr)} {outer : List Env} {A₀ : Around} {base h₀ : Heap} {L : Addr} {m : Str → Option Value} {s : Shared} {Q E : Value → Shared → Prop} {news : List (Addr × Obj)}
theorem DrawOk.use {ns : List Int} {vs : List Value} {l : Addr} {e1 e2 e3 : Addr × Obj} {k : Int} {t : Tok} (D : DrawOk w p loose mean mg mb ns vs l e1 e2 e3) (B : Below A₀ base outer h₀) (F : Fr h₀ L s.heap m) (X : (Mine.hd.heap_39 w.params).In h₀) (N : News h₀ L s.heap news) (T : Top p loose mean mg mb h₀)
    (h1 : e1 ∈ news) (h2 : e2 ∈ news) (h3 : e3 ∈ news) (hl : base.IsList l vs.toArray) (hi : IntsAre vs ns) (hf : ns.length < 2 ^ 62) (hn : ns.length ≤ 63) (hk : cs.kind = .function) (k0 : 0 ≤ k) (k1 : k ≤ 100) (hd : dp + 2 < recursionLimit) (hu : un + 16 < cLine)
    (h : ∀ (t : Tok) (h' : Heap) (tk' : Nat), Fr h₀ L h' m → News h₀ L h' news → Q (.int (drawV ns k) t) { s with heap := h', toks := tk' }) :
    wpAny (model PySem.Challenge.rw_er0021_01.row.prog w) (ktrTop dp un gd cn cs L a ccd cl outer) (call (.ref e1.1) [.int k t]) Q E s :=
  D news k t dp un gd cn cs a ccd cl outer A₀ base h₀ L m s Q E B F X (fun q hq => by
    rcases List.mem_cons.mp hq with rfl | hq
    · exact N _ h1
    rcases List.mem_cons.mp hq with rfl | hq
    · exact N _ h2
    rcases List.mem_cons.mp hq with rfl | hq
    · exact N _ h3
    exact N _ hq) T hl hi hf hn hk k0 k1 hd hu fun t h' tk' F' N' => h t h' tk' F' fun q hq => N' q (List.mem_cons_of_mem _ (List.mem_cons_of_mem _ (List.mem_cons_of_mem _ hq)))
theorem WrittenOk.use {e1 e2 : Addr × Obj} {host : Str} {t1 : Tok} {l : Addr} {vs : List Value} {n : Nat} {fs : List Str} {name : Str} {t2 : Tok} (D : WrittenOk w p loose mean mg mb e1 e2) (B : Below A₀ base outer h₀) (F : Fr h₀ L s.heap m) (X : (Mine.hd.heap_39 w.params).In h₀) (N : News h₀ L s.heap news) (T : Top p loose mean mg mb h₀)
    (h1 : e1 ∈ news) (h2 : e2 ∈ news) (h3 : (l, listOf vs.toArray n) ∈ news) (hk : cs.kind = .function) (hc : CarriedAll vs (fs.map fun y => PyData.str y)) (hn : fs.length ≤ 60) (hb : ∀ f ∈ fs, f.length ≤ 4) (hh : host.length ≤ 100) (hm : name.length ≤ 100) (hd : dp + 2 < recursionLimit) (hu : un + 16 < cLine)
    (h : ∀ (t : Tok) (h' : Heap) (tk' : Nat), Fr h₀ L h' m → News h₀ L h' news → Q (.str (wr host fs name) t) { s with heap := h', toks := tk' }) :
    wpAny (model PySem.Challenge.rw_er0021_01.row.prog w) (ktrTop dp un gd cn cs L a ccd cl outer) (call (.ref e1.1) [.str host t1, .ref l, .str name t2]) Q E s :=
  D news host t1 l vs n fs name t2 dp un gd cn cs a ccd cl outer A₀ base h₀ L m s Q E B F X (fun q hq => by
    rcases List.mem_cons.mp hq with rfl | hq
    · exact N _ h1
    rcases List.mem_cons.mp hq with rfl | hq
    · exact N _ h2
    rcases List.mem_cons.mp hq with rfl | hq
    · exact N _ h3
    exact N _ hq) T hk hc hn hb hh hm hd hu fun t h' tk' F' N' => h t h' tk' F' fun q hq => N' q (List.mem_cons_of_mem _ (List.mem_cons_of_mem _ (List.mem_cons_of_mem _ hq)))
end
end Mine
end
section
open PySem PySem.W PyProof.Rows PySem.Calls PySem.Spec
namespace Mine
/-! a statement cut off from what follows; a loop over a range whose state is any datum -/
def CutEnd {σ : Type} (h₀ : Heap) (L : Addr) (m : Str → Option Value) (s : Shared) (Led : σ → List (Addr × Obj)) (ps : σ → List (Str × Value)) (Facts : σ → Prop) (fl : Flow) (s' : Shared) : Prop :=
  fl = .next ∧ ∃ (c : σ) (h' : Heap) (tk' : Nat) (m' : Str → Option Value) (news' : List (Addr × Obj)), s' = { s with heap := h', toks := tk' } ∧ Fr h₀ L h' m' ∧ News h₀ L h' news' ∧ (∀ p ∈ Led c, p ∈ news') ∧ Facts c ∧ (∀ p ∈ ps c, m' p.1 = some p.2) ∧ (∀ z, (∀ p ∈ ps c, z ≠ p.1) → m' z = m z)
theorem CutEnd.intro {σ : Type} {h₀ : Heap} {L : Addr} {m : Str → Option Value} {s : Shared} {Led : σ → List (Addr × Obj)} {ps : σ → List (Str × Value)} {Facts : σ → Prop} {h' : Heap} {tk' : Nat} {m' : Str → Option Value} {news' : List (Addr × Obj)} (c : σ)
    (F : Fr h₀ L h' m') (N : News h₀ L h' news') (hl : ∀ p ∈ Led c, p ∈ news') (hf : Facts c) (hk : ∀ p ∈ ps c, m' p.1 = some p.2) (hr : ∀ z, (∀ p ∈ ps c, z ≠ p.1) → m' z = m z) :
    CutEnd h₀ L m s Led ps Facts .next { s with heap := h', toks := tk' } := ⟨rfl, c, h', tk', m', news', rfl, F, N, hl, hf, hk, hr⟩
theorem kstB_of {m₁ m : Str → Option Value} {ps : List (Str × Value)} (h1 : ∀ p ∈ ps, m₁ p.1 = some p.2) (h2 : ∀ z, (∀ p ∈ ps, z ≠ p.1) → m₁ z = m z) : kstB m ps = m₁ := by
  funext z
  exact kstB_eq h1 fun hn => (h2 z hn).symm
section
variable {prog : Program} {w : World} {A : Around} {E : Value → Shared → Prop} {s : Shared} {env : Env} {h₀ : Heap} {Q : Flow → Shared → Prop}
theorem cut {σ : Type} {st : Stmt} {L : Addr} {m : Str → Option Value} (Led : σ → List (Addr × Obj)) (ps : σ → List (Str × Value)) (Facts : σ → Prop) (u9F : Fr h₀ L s.heap m)
    (walk : wpAny (model prog w) A (exec st env) (CutEnd h₀ L m s Led ps Facts) E s)
    (cont : ∀ (c : σ) (h' : Heap) (tk' : Nat), Facts c → Fr h₀ L h' (kstB m (ps c)) → News h₀ L h' (Led c) → Q .next { s with heap := h', toks := tk' }) :
    wpAny (model prog w) A (exec st env) Q E s := by
  refine wpAny_mono walk (fun fl s' h => ?_) fun _ _ h => h
  obtain ⟨rfl, c, h', tk', m', news', rfl, F, N, hl, hf, hk, hr⟩ := h
  exact cont c h' tk' hf (by rw [kstB_of hk hr]; exact F) fun p hp => N p (hl p hp)

theorem cut1 {σ : Type} {st : Stmt} {L : Addr} {m : Str → Option Value} {led : List (Addr × Obj)} (e : σ → Addr × Obj) (ps : σ → List (Str × Value)) (Facts : σ → Prop) (F : Fr h₀ L s.heap m) (u9N : News h₀ L s.heap led)
    (walk : wpAny (model prog w) A (exec st env) (CutEnd h₀ L m s (fun c => e c :: led) ps (fun c => (∀ p ∈ led, @Ne Nat p.1 (e c).1) ∧ Facts c)) E s)
    (cont : ∀ (c : σ) (h' : Heap) (tk' : Nat), (∀ p ∈ led, @Ne Nat p.1 (e c).1) → Facts c → Fr h₀ L h' (kstB m (ps c)) → News h₀ L h' (e c :: led) → Q .next { s with heap := h', toks := tk' }) :
    wpAny (model prog w) A (exec st env) Q E s := cut (fun c => e c :: led) ps _ F walk fun c h' tk' hf => cont c h' tk' hf.1 hf.2
theorem cut0 {σ : Type} {st : Stmt} {L : Addr} {m : Str → Option Value} {led : List (Addr × Obj)} (ps : σ → List (Str × Value)) (Facts : σ → Prop) (F : Fr h₀ L s.heap m) (u9N : News h₀ L s.heap led)
    (walk : wpAny (model prog w) A (exec st env) (CutEnd h₀ L m s (fun _ => led) ps Facts) E s)
    (cont : ∀ (c : σ) (h' : Heap) (tk' : Nat), Facts c → Fr h₀ L h' (kstB m (ps c)) → News h₀ L h' led → Q .next { s with heap := h', toks := tk' }) :
    wpAny (model prog w) A (exec st env) Q E s := cut (fun _ => led) ps Facts F walk cont

theorem For_my {x : Str} {px pos : Pos} {iter : PySem.Expr} {body : List Stmt} {m : Str → Option Value} (u9F : Fr h₀ env.locals s.heap m) (hx : env.kindOf x = some .local)
    (hp : (env.scope.kind == .class || (env.scope.kind == .module && env.locals != env.globals)) = false)
    (h : wpAny (model prog w) A (eval iter env) (fun xv s₁ => wpAny (model prog w) A (pyIter xv) (fun it s₂ => LoopAtV prog w A h₀ env x body Q E it s₂) E s₁) E s)
    (hs : ∀ x, foldedSetIterable iter env x = pure x := by intro _; rfl)
    (hE : PassesOwn (model prog w) A env E := by passes_own) :
    wpAny (model prog w) A (exec (.For (.Name x px) iter body [] pos) env) Q E s := For_invV h₀ hx hp h hs hE
theorem newTuple_L {M : Model} {L : Addr} {m : Str → Option Value} {news : List (Addr × Obj)} {vs : List Value} {QV : Value → Shared → Prop} (F : Fr h₀ L s.heap m) (N : News h₀ L s.heap news)
    (h : ∀ d h', Fr h₀ L h' m → News h₀ L h' ((d, { cls := .type "tuple", data := .seq vs.toArray }) :: news) → (∀ p ∈ news, p.1 < d) → QV (.ref d) { s with heap := h' }) (hsz : vs.length ≤ sizeLine := by size_fits) :
    wpAny M A (newTuple vs) QV E s :=
  newTuple_N F N (fun h' F' N' => h _ h' F' N' fun p hp => Heap.lt_size (N p hp).1) hsz
theorem news_tail {h₀ h : Heap} {L : Addr} {e : Addr × Obj} {r : List (Addr × Obj)} (N : News h₀ L h (e :: r)) : News h₀ L h r := fun p hp => N p (List.mem_cons_of_mem _ hp)
theorem news_no3 {h₀ h : Heap} {L : Addr} {e1 e2 e3 : Addr × Obj} {r : List (Addr × Obj)} (N : News h₀ L h (e1 :: e2 :: e3 :: r)) : News h₀ L h (e1 :: e2 :: r) := fun p hp => N p (by
  rcases List.mem_cons.mp hp with rfl | hp
  · exact .head _
  · rcases List.mem_cons.mp hp with rfl | hp
    · exact .tail _ (.head _)
    · exact .tail _ (.tail _ (.tail _ hp)))
theorem news_no13 {h₀ h : Heap} {L : Addr} {e1 e2 e3 : Addr × Obj} {r : List (Addr × Obj)} (N : News h₀ L h (e1 :: e2 :: e3 :: r)) : News h₀ L h (e2 :: r) := fun p hp => news_no3 N p (.tail _ hp)
def TurnEnd {σ : Type} (h₀ : Heap) (L : Addr) (s : Shared) (Led : σ → List (Addr × Obj)) (ps : σ → List (Str × Value)) (Facts : Nat → σ → Prop) (x : Str) (stored : List Str) (m₀ : Str → Option Value) (I : Addr) (oI : Obj) (i : Nat) (s' : Shared) : Prop :=
  ∃ (c : σ) (h' : Heap) (tk' : Nat) (m' : Str → Option Value) (news' : List (Addr × Obj)), s' = { s with heap := h', toks := tk' } ∧ Fr h₀ L h' m' ∧ News h₀ L h' news' ∧ (∀ p ∈ Led c, p ∈ news') ∧ (I, oI) ∈ news' ∧ (∀ p ∈ Led c, p.1 ≠ I) ∧ Facts i c ∧ (∀ p ∈ ps c, m' p.1 = some p.2) ∧ (∀ z, z ≠ x → (∀ p ∈ ps c, z ≠ p.1) → stored.contains z = false → m' z = m₀ z)
def TurnPost {σ : Type} (h₀ : Heap) (L : Addr) (s : Shared) (Led : σ → List (Addr × Obj)) (ps : σ → List (Str × Value)) (Facts : Nat → σ → Prop) (x : Str) (stored : List Str) (m₀ : Str → Option Value) (I : Addr) (oI : Obj) (i : Nat) (Q : Flow → Shared → Prop) (f : Flow) (s' : Shared) : Prop :=
  match f with
  | .ret v => Q (.ret v) s'
  | .brk => Q .next s'
  | _ => TurnEnd h₀ L s Led ps Facts x stored m₀ I oI i s'
theorem TurnPost.fin {σ : Type} {L : Addr} {Led : σ → List (Addr × Obj)} {ps : σ → List (Str × Value)} {Facts : Nat → σ → Prop} {x : Str} {stored : List Str} {m₀ m' : Str → Option Value} {I : Addr} {oI : Obj} {i : Nat} {h' : Heap} {tk' : Nat} {news' : List (Addr × Obj)} (c : σ)
    (F : Fr h₀ L h' m') (N : News h₀ L h' news') (hl : ∀ p ∈ Led c, p ∈ news') (hI : (I, oI) ∈ news') (hne : ∀ p ∈ Led c, p.1 ≠ I) (hf : Facts i c) (hk : ∀ p ∈ ps c, m' p.1 = some p.2) (hr : ∀ z, z ≠ x → (∀ p ∈ ps c, z ≠ p.1) → stored.contains z = false → m' z = m₀ z) :
    TurnPost h₀ L s Led ps Facts x stored m₀ I oI i Q .next { s with heap := h', toks := tk' } := ⟨c, h', tk', m', news', rfl, F, N, hl, hI, hne, hf, hk, hr⟩
def ForJ {σ : Type} (Led : σ → List (Addr × Obj)) (ps : σ → List (Str × Value)) (Facts : Nat → σ → Prop) (x : Str) (stored : List Str) (m₀ : Str → Option Value) (i : Nat) (m : Str → Option Value) (nx : List (Addr × Obj)) : Prop :=
  ∃ c : σ, nx = Led c ∧ Facts i c ∧ (∀ p ∈ ps c, m p.1 = some p.2) ∧ (∀ z, z ≠ x → (∀ p ∈ ps c, z ≠ p.1) → stored.contains z = false → m z = m₀ z)
theorem for_range {σ : Type} {x : Str} {body : List Stmt} {r : Addr} {a₀ b₀ : Int} {t₀ u₀ v₀ : Tok} {n : Nat} {m₀ : Str → Option Value} (Led : σ → List (Addr × Obj)) (ps : σ → List (Str × Value)) (Facts : Nat → σ → Prop) (stored : List Str) (c₀ : σ)
    (hh : A.handled = none) (hr : IsRange s.heap r a₀ b₀ 1 t₀ u₀ v₀) (hsmall : Builtin.Range.small a₀ b₀ 1 = true) (hn : Builtin.Range.rangeSize a₀ b₀ 1 = (n : Int)) (F : Fr h₀ env.locals s.heap m₀) (N : News h₀ env.locals s.heap (Led c₀)) (hf : Facts 0 c₀) (hk : ∀ p ∈ ps c₀, m₀ p.1 = some p.2)
    (turn : ∀ (i : Nat) (k : Int) (c : σ) (t : Tok) (u : Str → Option Value) (h : Heap) (tk : Nat) (I : Addr) (oI : Obj), k = a₀ + (i : Int) → i < n → (∀ p ∈ Led c, p.1 ≠ I) → (∀ p ∈ Led c₀, p.1 < I) → env.locals < I → Facts i c →
      Fr h₀ env.locals h (fun y => if y = x then some (.int k t) else kstB (fun z => if stored.contains z then u z else m₀ z) (ps c) y) → News h₀ env.locals h ((I, oI) :: Led c) →
      wpAny (model prog w) A (execs body env) (TurnPost h₀ env.locals { s with heap := h, toks := tk } Led ps Facts x stored m₀ I oI (i + 1) Q) E { s with heap := h, toks := tk })
    (done : ∀ (c : σ) (u : Str → Option Value) (h : Heap) (tk : Nat), Facts n c → Fr h₀ env.locals h (fun y => if y = x then u y else kstB (fun z => if stored.contains z then u z else m₀ z) (ps c) y) → News h₀ env.locals h (Led c) → Q .next { s with heap := h, toks := tk }) :
    wpAny (model prog w) A (pyIter (.ref r)) (fun it s₂ => LoopAtV prog w A h₀ env x body Q E it s₂) E s := by
  refine wpAny_pyIter_range hr hsmall ?_
  have W : Walks prog w A s.heap.objs.size [s.heap.objs.size] [s.heap.objs.size] n (fun i v => i < n ∧ ∃ t, v = .int (a₀ + i * 1) t)
      (fun i h => IsRangeIter h s.heap.objs.size (a₀ + (i : Nat) * 1) ((n : Int) - (i : Nat)) 1) := (Walks.range hh _ a₀ 1 n).bound
  refine ⟨s.heap.objs.size, _, _, n, _, _, m₀, Led c₀,
    ForJ Led ps Facts x stored m₀,
    rfl, W, ?_, ?_, ?_, (by show IsRangeIter _ _ _ _ _; rw [hn]; simpa using Heap.get?_push_size _ rfl), F.push _, (fun p hp => ⟨Heap.get?_push_of_some _ (N p hp).1, (N p hp).2⟩), ⟨c₀, rfl, hf, hk, fun _ _ _ _ => rfl⟩, ?_, ?_⟩
  · intro hm
    exact absurd F.ns.lt ((List.mem_singleton.mp hm) ▸ Nat.lt_irrefl _)
  · intro b hb
    rw [List.mem_singleton.mp hb]
    exact next_is_new F
  · intro p hp hI
    exact absurd (Heap.lt_size (N p hp).1) ((List.mem_singleton.mp hI) ▸ Nat.lt_irrefl _)
  · rintro i v m₁ news₁ s₁ own ⟨hh', tk', rfl⟩ hin ⟨_, t, rfl⟩ ⟨c, rfl, hf', h1, h2⟩ hoff hown hget hall hst F₁ N₁
    obtain ⟨oI, hI⟩ : ∃ o, hh'.get? s.heap.objs.size = some o := ⟨_, hst⟩
    have hmem := hall _ (List.mem_singleton.mpr rfl) (next_is_new F) _ hI
    have e1 : a₀ + (i : Int) * 1 = a₀ + (i : Int) := by omega
    rw [e1] at F₁
    have hone : ∀ p ∈ own, p = (s.heap.objs.size, oI) := fun p hp => by
      have q1 := List.mem_singleton.mp (hown p hp)
      have q2 := hget p hp
      rw [q1] at q2
      have q3 : some p.2 = some oI := q2.symm.trans hI
      exact Prod.ext q1 (Option.some.inj q3)
    refine wpAny_mono (turn i _ c t m₁ hh' tk' s.heap.objs.size oI rfl hin (fun p hp e => hoff p hp (List.mem_singleton.mpr e)) (fun p hp => Heap.lt_size (N p hp).1) F.ns.lt hf' (kst_fr h1 h2 F₁) ?_) (fun f s₂ p => ?_) fun _ _ e => e
    · intro p hp
      rcases List.mem_cons.mp hp with rfl | hp
      · exact N₁ _ (List.mem_append_left _ hmem)
      · exact N₁ _ (List.mem_append_right _ hp)
    · have fin : TurnEnd h₀ env.locals { s with heap := hh', toks := tk' } Led ps Facts x stored m₀ s.heap.objs.size oI (i + 1) s₂ → LoopStepU h₀ env.locals [s.heap.objs.size] own (ForJ Led ps Facts x stored m₀ (i + 1)) { s with heap := hh', toks := tk' } .next s₂ := by
        rintro ⟨c', h', tk, m', news', rfl, F', N', hl, hI', hne, hf'', hk', hr'⟩
        refine ⟨rfl, h', tk, m', Led c', rfl, F', fun p hp => ?_, fun p hp hq => hne p hp (List.mem_singleton.mp hq), c', rfl, hf'', hk', hr'⟩
        rcases List.mem_append.mp hp with hp | hp
        · rw [hone p hp]; exact N' _ hI'
        · exact N' p (hl p hp)
      cases f with
      | ret v => exact .ret p
      | brk => exact .brk p
      | next => exact .next (fin p)
      | cont => exact .cont (fin p)
  · rintro h' tk m' news' F' N' _ ⟨c, rfl, hf', h1, h2⟩
    exact done c m' h' tk hf' (kst_frOut h1 h2 F') N'
end
end Mine
end
section
open PySem PySem.W PyProof.Rows PySem.Calls PySem.Spec
namespace Mine
/-! what is known of the law's texts -/
def GoodF (f : Str) : Prop := ∃ a b, f = S [a, b] ∧ (a = 100 ∨ a = 102) ∧ 48 ≤ b ∧ b ≤ 57
def GoodN (n : Str) : Prop := 47 ∉ n.cps.toList ∧ n.length ≤ 6
def HostOk (h : Str) : Prop := ∃ sc nt, h = S (sc ++ 58 :: 47 :: 47 :: nt) ∧ 58 ∉ sc ∧ 47 ∉ sc ∧ 47 ∉ nt ∧ sc.length ≤ 5 ∧ nt.length ≤ 4 ∧ (sc = [104, 116, 116, 112] ∨ sc = [104, 116, 116, 112, 115])
theorem dig (v : Int) (h0 : 0 ≤ v) (h1 : v < 10) : Str.ofString (toString v) = S [48 + v.toNat] := by
  have key : ∀ k : Fin 10, Str.ofString (toString ((k : Nat) : Int)) = S [48 + (k : Nat)] := by decide +kernel
  have := key ⟨v.toNat, by omega⟩
  simp only at this
  rwa [Int.toNat_of_nonneg h0] at this
theorem lit_f : Str.ofString "f" = S [102] := by decide +kernel
theorem lit_d : Str.ofString "d" = S [100] := by decide +kernel
theorem goodF_f (v : Int) (h0 : 0 ≤ v) (h1 : v < 10) : GoodF (Str.ofString "f" ++ Str.ofString (toString v)) := by
  rw [lit_f, dig v h0 h1, S_app]; exact ⟨102, 48 + v.toNat, rfl, .inr rfl, by omega, by omega⟩
theorem goodF_d (v : Int) (h0 : 0 ≤ v) (h1 : v < 10) : GoodF (Str.ofString "d" ++ Str.ofString (toString v)) := by
  rw [lit_d, dig v h0 h1, S_app]; exact ⟨100, 48 + v.toNat, rfl, .inl rfl, by omega, by omega⟩
theorem GoodF.len {f : Str} (h : GoodF f) : f.length ≤ 4 := by
  obtain ⟨a, b, rfl, _⟩ := h
  rw [S_len]; simp
theorem GoodF.lens {fs : List Str} (h : ∀ f ∈ fs, GoodF f) : ∀ f ∈ fs, f.length ≤ 4 := fun f hf => (h f hf).len
theorem GoodF.clean {f : Str} (h : GoodF f) : Clean f.cps.toList := by
  obtain ⟨a, b, rfl, ha, h1, h2⟩ := h
  rw [S_cps]; unfold Clean; simp; omega
theorem fmod_b (x : Int) (k : Int) (hk : 0 < k) : 0 ≤ x.fmod k ∧ x.fmod k < k := ⟨Int.fmod_nonneg_of_pos x hk, Int.fmod_lt_of_pos x hk⟩
theorem str_mod {prog : Program} {w : World} {A : Around} {E : Value → Shared → Prop} {s : Shared} {Q : Value → Shared → Prop} {x k : Int} {t : Tok} (hk : 0 < k) (hk2 : k < 100)
    (h : Q (.str (Str.ofString (toString (x.fmod k))) s.toks) { s with toks := s.toks + 1 }) : wpAny (model prog w) A (call (.type "str") [.int (x.fmod k) t]) Q E s := by
  obtain ⟨h1, h2⟩ := fmod_b x k hk
  have e : (2 : Int) ^ 1920 = 2 ^ 7 * 2 ^ 1913 := by rw [← Int.pow_add]
  have p : (0 : Int) < 2 ^ 1913 := Int.pow_pos (by decide)
  have q : (128 : Int) ≤ 2 ^ 1920 := by rw [e]; have : (2 : Int) ^ 7 = 128 := by decide
                                        rw [this]; omega
  exact P.str_of_int (shown (N := 2 ^ 1920) (by omega) (by omega) (Int.le_refl _)) h
theorem str_mod4 {prog : Program} {w : World} {A : Around} {E : Value → Shared → Prop} {s : Shared} {Q : Value → Shared → Prop} {x : Int} {t : Tok}
    (h : Q (.str (Str.ofString (toString (x.fmod 4))) s.toks) { s with toks := s.toks + 1 }) : wpAny (model prog w) A (call (.type "str") [.int (x.fmod 4) t]) Q E s := str_mod (by decide) (by decide) h
theorem str_mod5 {prog : Program} {w : World} {A : Around} {E : Value → Shared → Prop} {s : Shared} {Q : Value → Shared → Prop} {x : Int} {t : Tok}
    (h : Q (.str (Str.ofString (toString (x.fmod 5))) s.toks) { s with toks := s.toks + 1 }) : wpAny (model prog w) A (call (.type "str") [.int (x.fmod 5) t]) Q E s := str_mod (by decide) (by decide) h
theorem str_mod3 {prog : Program} {w : World} {A : Around} {E : Value → Shared → Prop} {s : Shared} {Q : Value → Shared → Prop} {x : Int} {t : Tok}
    (h : Q (.str (Str.ofString (toString (x.fmod 3))) s.toks) { s with toks := s.toks + 1 }) : wpAny (model prog w) A (call (.type "str") [.int (x.fmod 3) t]) Q E s := str_mod (by decide) (by decide) h
theorem add_f4 {prog : Program} {w : World} {A : Around} {E : Value → Shared → Prop} {s : Shared} {Q : Value → Shared → Prop} {x : Int} {t u : Tok}
    (h : ∀ (t' : Tok) (tk : Nat), Q (.str (Str.ofString "f" ++ Str.ofString (toString (x.fmod 4))) t') { s with toks := tk }) : wpAny (model prog w) A (binaryOp .Add (.str (Str.ofString "f") t) (.str (Str.ofString (toString (x.fmod 4))) u)) Q E s := by
  refine add_str h ?_
  rw [lit_f, dig _ (fmod_b x 4 (by decide)).1 (by have := (fmod_b x 4 (by decide)).2; omega), PySem.sizeLine_eq, S_len, S_len]
  simp
theorem add_d5 {prog : Program} {w : World} {A : Around} {E : Value → Shared → Prop} {s : Shared} {Q : Value → Shared → Prop} {x : Int} {t u : Tok}
    (h : ∀ (t' : Tok) (tk : Nat), Q (.str (Str.ofString "d" ++ Str.ofString (toString (x.fmod 5))) t') { s with toks := tk }) : wpAny (model prog w) A (binaryOp .Add (.str (Str.ofString "d") t) (.str (Str.ofString (toString (x.fmod 5))) u)) Q E s := by
  refine add_str h ?_
  rw [lit_d, dig _ (fmod_b x 5 (by decide)).1 (by have := (fmod_b x 5 (by decide)).2; omega), PySem.sizeLine_eq, S_len, S_len]
  simp
def pow3 (k : Int) : Int := 3 ^ (min k.toNat 2)
theorem pow3_b (k : Int) : 0 < pow3 k ∧ pow3 k < 10 := by
  have h : min k.toNat 2 = 0 ∨ min k.toNat 2 = 1 ∨ min k.toNat 2 = 2 := by omega
  unfold pow3
  rcases h with h | h | h <;> rw [h] <;> decide
theorem jb {k x : Int} (h : k < 0 + ((x.fmod 3 - 0).toNat : Int)) : k ≤ 2 := by
  have h1 := (fmod_b x 3 (by decide)).2
  generalize x.fmod 3 = y at *
  omega
theorem pow3_rule {prog : Program} {w : World} {A : Around} {E : Value → Shared → Prop} {s : Shared} {Q : Value → Shared → Prop} {k x : Int} {t u : Tok} (h0 : 0 ≤ k) (h1 : k < 0 + ((x.fmod 3 - 0).toNat : Int))
    (h : Q (.int (pow3 k) s.toks) { s with toks := s.toks + 1 }) : wpAny (model prog w) A (binaryOp .Pow (.int 3 t) (.int k u)) Q E s :=
  pow_int_small h0 (by have := jb h1; omega) (by decide) (by
    have e : (3 : Int) ^ k.toNat = pow3 k := by unfold pow3; rw [Nat.min_eq_left (by have := jb h1; omega)]
    rw [e]; exact h)
theorem div3_rule {prog : Program} {w : World} {A : Around} {E : Value → Shared → Prop} {s : Shared} {Q : Value → Shared → Prop} {a k : Int} {t u : Tok}
    (h : Q (.int (a.fdiv (pow3 k)) s.toks) { s with toks := s.toks + 1 }) : wpAny (model prog w) A (binaryOp .FloorDiv (.int a t) (.int (pow3 k) u)) Q E s :=
  floordiv_int (by have := (pow3_b k).1; omega) h (.inl (PyProof.noPylong_small (by have := pow3_b k; omega)))
theorem fm8 (x : Int) : 0 ≤ 1 + x.fmod 8 ∧ 1 + x.fmod 8 ≤ 8 := by
  have h1 := fmod_b x 8 (by decide)
  generalize x.fmod 8 = y at *
  omega
theorem fm3 {x : Int} {k : Nat} (h : k = (x.fmod 4 - 0).toNat) : k ≤ 3 := by
  have h1 := (fmod_b x 4 (by decide)).2
  generalize x.fmod 4 = y at *
  omega
theorem fm2 {x : Int} {k : Nat} (h : k = (x.fmod 3 - 0).toNat) : k ≤ 2 := by
  have h1 := (fmod_b x 3 (by decide)).2
  generalize x.fmod 3 = y at *
  omega
theorem small3 (x : Int) : Builtin.Range.small 0 (x.fmod 3) 1 = true := by
  have h1 := fmod_b x 3 (by decide)
  exact small_one (by omega) (by omega) (by omega) (by omega)
theorem size3 (x : Int) : ((x.fmod 3) - 0).toNat ≤ sizeLine := Nat.le_trans (fm2 rfl) (by rw [PySem.sizeLine_eq]; decide)
theorem folders_f {D : Int → Int} {x : Int} {ys : List Value} {n : Nat} (hc : CarriedAll ys ((rangeKs x n).map fun k => PyData.str (Str.ofString "f" ++ Str.ofString (toString ((D k).fmod 4))))) :
    ∃ fs : List Str, CarriedAll ys (fs.map fun y => PyData.str y) ∧ fs.length = n ∧ ∀ f ∈ fs, GoodF f := by
  refine ⟨(rangeKs x n).map fun k => Str.ofString "f" ++ Str.ofString (toString ((D k).fmod 4)), by rw [List.map_map]; exact hc, by rw [List.length_map, rangeKs_length], fun f hf => ?_⟩
  obtain ⟨k, _, rfl⟩ := List.mem_map.mp hf
  exact goodF_f _ (fmod_b _ 4 (by decide)).1 (by have := (fmod_b (D k) 4 (by decide)).2; omega)
theorem folders_d {D : Int → Int} {x : Int} {ys : List Value} {n : Nat} (hc : CarriedAll ys ((rangeKs x n).map fun k => PyData.str (Str.ofString "d" ++ Str.ofString (toString ((D k).fmod 5))))) :
    ∃ fs : List Str, CarriedAll ys (fs.map fun y => PyData.str y) ∧ fs.length = n ∧ ∀ f ∈ fs, GoodF f := by
  refine ⟨(rangeKs x n).map fun k => Str.ofString "d" ++ Str.ofString (toString ((D k).fmod 5)), by rw [List.map_map]; exact hc, by rw [List.length_map, rangeKs_length], fun f hf => ?_⟩
  obtain ⟨k, _, rfl⟩ := List.mem_map.mp hf
  exact goodF_d _ (fmod_b _ 5 (by decide)).1 (by have := (fmod_b (D k) 5 (by decide)).2; omega)
theorem hostOk_0 : HostOk (Str.ofString "http://a.b") := ⟨[104, 116, 116, 112], [97, 46, 98], by decide +kernel, by decide, by decide, by decide, by decide, by decide, .inl rfl⟩
theorem HostOk.len {h : Str} (k : HostOk h) : h.length ≤ 100 := by
  obtain ⟨sc, nt, rfl, _, _, _, h1, h2, _⟩ := k
  rw [S_len]; simp; omega
theorem GoodN.len {n : Str} (k : GoodN n) : n.length ≤ 100 := by have := k.2; omega
def EndOk (ds : List Str) (e : Str) : Prop := e = Str.ofString "" ∨ e = Str.ofString "z" ∨ (ds ≠ [] ∧ e = Str.ofString "y:q") ∨ e = Str.ofString "y.q"
theorem EndOk.good {ds : List Str} {e : Str} (h : EndOk ds e) : GoodN e := by
  rcases h with rfl | rfl | ⟨_, rfl⟩ | rfl <;> (unfold GoodN; decide +kernel)
theorem goodN_0 : GoodN (Str.ofString "") := by unfold GoodN; decide +kernel
theorem goodN_1 : GoodN (Str.ofString "n") := by unfold GoodN; decide +kernel
theorem goodN_2 : GoodN (Str.ofString "name.x") := by unfold GoodN; decide +kernel
section
variable {prog : Program} {w : World} {A : Around} {h₀ : Heap} {L : Addr} {m : Str → Option Value} {env : Env} {elt : PySem.Expr} {x : Str} {scope : Scope} {cl : List (Str × Addr)} {s : Shared} {S' : List (Addr × Obj) → Prop} {Fin : List Value → List (Addr × Obj) → Prop} {news : List (Addr × Obj)}
theorem kct_d {n : Nat} {a : Int} {M : Int} {om : Obj} {tm : Tok} (u9hm : om.data = .cell (some (.int M tm)))
    (turn : ∀ k t I oI C oC D m₂ ys h tk (E' : Value → Shared → Prop), a ≤ k → k < a + (n : Int) → LCg.NsObj oC m₂ → m₂ x = some (.int k t) → Fr h₀ L h m → News h₀ L h ((I, oI) :: (C, oC) :: (D, LCg.lst ys) :: news) → LCg.Off3 I C D news → ((@Ne Nat I C) ∧ (@Ne Nat I D) ∧ (@Ne Nat C D)) → KPfMark →
      wpAny (model prog w) A (eval elt (compEnvC scope cl C env)) (LCg.CompEnd h₀ L m { s with heap := h, toks := tk } I oI C oC D (LCg.lst ys) S' (fun y news' => KCtEl news (Str.ofString "d" ++ Str.ofString (toString ((M.fdiv (pow3 k)).fmod 5))) y news')) E' { s with heap := h, toks := tk })
    (fin : KPfDone (∀ ys, CarriedAll ys ((rangeKs a n).map fun k => PyData.str (Str.ofString "d" ++ Str.ofString (toString ((M.fdiv (pow3 k)).fmod 5)))) → (rangeKs a n).length = n → Fin ys news)) : LCg.CompRest prog w A h₀ L m env elt x scope cl s S' (fun i v => ∃ t, v = .int (a + (i : Int)) t) Fin n 0 [] news :=
  kct_range (fun k => Str.ofString "d" ++ Str.ofString (toString ((M.fdiv (pow3 k)).fmod 5))) turn fin
end
end Mine
end
section
open PySem PySem.W PyProof.Rows PySem.Calls PySem.Spec PyProof.V PySem.SeqAt
namespace Mine
theorem strs_canLay : ∀ fs : List Str, (∀ f ∈ fs, PyData.strOk f = true) → PyData.canLayAll0 (fs.map fun y => PyData.str y) = true
  | [], _ => by simp [PyData.canLayAll0]
  | n :: r, h => by simp [PyData.canLayAll0, PyData.canLay0, h n (List.mem_cons_self ..), strs_canLay r fun f hf => h f (List.mem_cons_of_mem _ hf)]
theorem good_strOk {f : Str} (h : GoodF f) : PyData.strOk f = true := by
  obtain ⟨a, b, rfl, ha, h1, h2⟩ := h
  simp [PyData.strOk, S]
  omega
theorem strs_depth : ∀ fs : List Str, PyData.depthAll (fs.map fun y => PyData.str y) ≤ 1
  | [] => by simp [PyData.depthAll]
  | n :: r => by
    have := strs_depth r
    simp only [List.map_cons, PyData.depthAll, PyData.depth]
    omega
theorem strs_shaped (fs : List Str) (hg : ∀ f ∈ fs, GoodF f) : shaped (.list (fs.map fun y => PyData.str y)) = true := by
  have h1 := strs_depth fs
  have h2 : PyData.depth (.list (fs.map fun y => PyData.str y)) ≤ 64 := by simp only [PyData.depth]; omega
  show (PyData.canLay0 (.list (fs.map fun y => PyData.str y)) && decide (PyData.depth (.list (fs.map fun y => PyData.str y)) ≤ 64)) = true
  rw [Bool.and_eq_true]
  exact ⟨by simp only [PyData.canLay0]; exact strs_canLay fs fun f hf => good_strOk (hg f hf), decide_eq_true h2⟩
section
variable {prog : Program} {w : World} {A : Around} {E : Value → Shared → Prop} {s : Shared}
theorem ne_nil {a b : Addr} {vs : List Value} {fs : List Str} {Q : Value → Shared → Prop} (ha : s.heap.IsList a vs.toArray) (hc : CarriedAll vs (fs.map fun y => PyData.str y)) (hb : s.heap.IsList b ([] : List Value).toArray) (hg : ∀ f ∈ fs, GoodF f) (hu : A.units + 64 < cLine)
    (h : Q (.bool (!decide (fs = []))) s) : wpAny (model prog w) A (compareOp .NotEq (.ref a) (.ref b)) Q E s := by
  refine ne_dataH_same (reads_newData ha hc) (reads_newData hb (ds := []) .nil) (strs_shaped fs hg) (strs_shaped [] fun _ h => nomatch h) hu ?_ ?_
  · simp only [noMix]; cases fs <;> simp [noMixAll]
  · have e : PySem.Spec.same (.list (fs.map fun y => PyData.str y)) (.list []) = decide (fs = []) := by
      cases fs <;> simp [PySem.Spec.same, PySem.Spec.sameAll]
    rw [e]; exact h
end
end Mine
end
section
open PySem PySem.W PyProof.Rows PySem.Calls PySem.Spec
namespace Mine
theorem ups_len : ∀ u, (ups u).length = 3 * u
  | 0 => rfl
  | u + 1 => by simp [ups, ups_len u]; omega
theorem ups_flat : ∀ u, (List.replicate u [46, 46, 47]).flatten = ups u
  | 0 => rfl
  | u + 1 => by simp [List.replicate_succ, ups, ups_flat u]
theorem mul_ups (u : Int) : Txt.mul (Str.ofString "../") u = S (ups u.toNat) := by
  rw [lit_up]
  unfold Txt.mul
  by_cases h : u < 1
  · rw [if_pos h, show u.toNat = 0 by omega]; rfl
  · rw [if_neg h]
    by_cases h1 : u = 1
    · subst h1; rfl
    · have : ¬ (u == 1 || (S [46, 46, 47]).length == 0) = true := by simp [h1, S, Str.length]
      rw [if_neg this]
      have key : ∀ (n : Nat) (a : Array Nat), (List.foldl (fun x1 x2 => x1 ++ x2) a (List.replicate n (S [46, 46, 47]).cps)).toList = a.toList ++ (List.replicate n [46, 46, 47]).flatten := by
        intro n
        induction n with
        | zero => intro a; simp
        | succ n ih => intro a; rw [List.replicate_succ, List.foldl_cons, ih]; simp [List.replicate_succ, S]
      have k2 := key u.toNat #[]
      rw [← S_list ⟨_⟩, k2, ups_flat]
      rfl
section
variable {prog : Program} {w : World} {A : Around} {E : Value → Shared → Prop} {s : Shared} {Q : Value → Shared → Prop}
theorem mult_ups {u : Int} {t v : Tok} (hu : 0 ≤ u) (h0 : u ≤ 20) (h : ∀ (t' : Tok) (k : Nat) (J : Str), J = S (ups u.toNat) → J.length ≤ 60 → Q (.str J t') { s with toks := k }) : wpAny (model prog w) A (binaryOp .Mult (.str (Str.ofString "../") t) (.int u v)) Q E s := by
  have e3 : (Str.ofString "../").length = 3 := by decide +kernel
  refine SB.mul (mulOk_of 16 1048576 (by omega) (by omega) (by omega) (by decide) (by decide)) fun t' k => h t' k _ (mul_ups u) ?_
  rw [mul_ups, S_len, ups_len]
  omega
theorem mem_len2 {a : Str} {fs : List Str} {k : Nat} (h2 : a ∈ List.map (fun a => a) fs) (h1 : ∀ f ∈ fs, f.length ≤ k) : a.length ≤ k := mem_len h1 h2
theorem ref_eq {J1 J2 e : Str} {u : Nat} {ds : List Str} (h1 : J1 = S (ups u)) (h2 : J2 = S (catF (ds.map (·.cps.toList)))) : J1 ++ J2 ++ e = S (ups u ++ (catF (ds.map (·.cps.toList)) ++ e.cps.toList)) := by
  subst h1 h2
  rw [← S_list e, S_app, S_app, S_cps, List.append_assoc]
end
end Mine
end
section
open PySem PySem.W PyProof.Rows PySem.Calls PySem.Spec
namespace Mine
abbrev lists (ds : List Str) : List (List Nat) := ds.map (·.cps.toList)
def RefOk (u : Nat) (ds : List Str) (e : Str) (r : Str) : Prop :=
  r = S (ups u ++ (catF (lists ds) ++ e.cps.toList)) ∨ (ds = [] ∧ e = Str.ofString "" ∧ ∃ k, u = k + 1 ∧ r = S (ups k ++ [46, 46]))
theorem ups_snoc : ∀ k, ups (k + 1) = ups k ++ [46, 46, 47]
  | 0 => rfl
  | k + 1 => by show 46 :: 46 :: 47 :: ups (k + 1) = 46 :: 46 :: 47 :: ups k ++ [46, 46, 47]; rw [ups_snoc k]; rfl
theorem z_cps : (Str.ofString "z").cps.toList = [122] := by decide +kernel
theorem yq_cps : (Str.ofString "y:q").cps.toList = [121, 58, 113] := by decide +kernel
theorem ydq_cps : (Str.ofString "y.q").cps.toList = [121, 46, 113] := by decide +kernel
theorem e_cps : (Str.ofString "").cps.toList = [] := by decide +kernel
theorem drop3_app (l t : List Nat) (h : t.length = 3) : (l ++ t).drop ((l ++ t).length - 3) = t := by
  rw [List.length_append, h, show l.length + 3 - 3 = l.length by omega, List.drop_left]
theorem last_app {l : List Nat} {x : Nat} (h : (l ++ [x]).drop ((l ++ [x]).length - 3) = [46, 46, 47]) : x = 47 := by
  have := congrArg List.getLast? h
  rw [List.getLast?_drop] at this
  simp at this
  exact this.2
theorem ref_cut {u : Nat} {ds : List Str} {e r : Str} (hg : ∀ d ∈ ds, GoodF d) (he : EndOk ds e) (hr : r = S (ups u ++ (catF (lists ds) ++ e.cps.toList))) (hc : (Txt.slice r (some (-3)) none == Str.ofString "../") = true) :
    RefOk u ds e (Txt.slice r none (some (-1))) := by
  subst hr
  rw [show (-3 : Int) = -((3 : Nat) : Int) from rfl, slice_last _ 3 (by decide), lit_up, S_beq] at hc
  have hc' := beq_iff_eq.mp hc
  have hE : e = Str.ofString "" := by
    rcases he with h | h | ⟨_, h⟩ | h
    · exact h
    · exfalso
      rw [h, z_cps, ← List.append_assoc] at hc'
      exact absurd (last_app hc') (by decide)
    · exfalso
      rw [h, yq_cps, show ups u ++ (catF (lists ds) ++ [121, 58, 113]) = (ups u ++ (catF (lists ds) ++ [121, 58])) ++ [113] by simp] at hc'
      exact absurd (last_app hc') (by decide)
    · exfalso
      rw [h, ydq_cps, show ups u ++ (catF (lists ds) ++ [121, 46, 113]) = (ups u ++ (catF (lists ds) ++ [121, 46])) ++ [113] by simp] at hc'
      exact absurd (last_app hc') (by decide)
  subst hE
  rw [e_cps, List.append_nil] at hc'
  have hD : ds = [] := by
    rcases List.eq_nil_or_concat ds with h | ⟨a, d, h⟩
    · exact h
    · exfalso
      rw [List.concat_eq_append] at h
      obtain ⟨x, y, hd, hx, _, _⟩ := hg d (by rw [h]; simp)
      have e2 : catF (lists ds) = catF (lists a) ++ [x, y, 47] := by
        rw [h]; show catF (lists (a ++ [d])) = _
        unfold lists
        rw [List.map_append, List.map_cons, List.map_nil, catF_snoc, hd, S_cps]; rfl
      rw [e2, ← List.append_assoc, drop3_app _ _ rfl] at hc'
      have := (List.cons.inj hc').1
      omega
  subst hD
  refine .inr ⟨rfl, rfl, ?_⟩
  have e3 : catF (lists []) = [] := rfl
  rw [e3, List.append_nil] at hc'
  cases u with
  | zero => simp [ups] at hc'
  | succ k =>
    refine ⟨k, rfl, ?_⟩
    rw [show (-1 : Int) = -((1 : Nat) : Int) from rfl, slice_but _ 1 (by decide), e3, e_cps, List.append_nil, List.append_nil, ups_snoc]
    congr 1
    rw [List.length_append, show (ups k).length + [46, 46, 47].length - 1 = (ups k ++ [46, 46]).length by simp, show ups k ++ [46, 46, 47] = (ups k ++ [46, 46]) ++ [47] by simp, List.take_left]
theorem ref_len {u : Nat} {ds : List Str} {e r : Str} (hu : u ≤ 3) (hd : ds.length ≤ 2) (hg : ∀ d ∈ ds, d.length ≤ 4) (he : e.length ≤ 6) (hr : r = S (ups u ++ (catF (lists ds) ++ e.cps.toList))) : r.length ≤ 100 := by
  have h1 := catF_len ds 4 hg
  subst hr
  rw [S_len, List.length_append, List.length_append, ups_len]
  have h2 : e.cps.toList.length = e.length := by simp [Str.length]
  unfold lists
  omega
end Mine
end
section
open PySem PySem.W PyProof.Rows PySem.Calls PySem.Spec
namespace Mine
theorem carried_take : ∀ {vs : List Value} {ds : List PyData}, CarriedAll vs ds → ∀ k : Nat, CarriedAll (vs.take k) (ds.take k)
  | _, _, .nil, k => by simpa using CarriedAll.nil
  | _, _, .cons c r, 0 => CarriedAll.nil
  | _, _, .cons c r, k + 1 => .cons c (carried_take r k)
section
variable {prog : Program} {w : World} {A : Around} {E : Value → Shared → Prop} {s : Shared} {h₀ : Heap} {L : Addr} {m : Str → Option Value} {news : List (Addr × Obj)}
theorem take_arr {vs : List Value} {k : Nat} (hk : k ≤ vs.length) : PySem.slicePick vs.toArray none (some (k : Int)) none = (vs.take k).toArray := by
  rw [slicePick_upto _ _ (by simpa using hk)]
theorem add_take {l b : Addr} {vs dvs : List Value} {fs ds : List Str} {k : Int} {Q : Value → Shared → Prop} (F : Fr h₀ L s.heap m) (N : News h₀ L s.heap news)
    (hl : s.heap.IsList l (PySem.slicePick vs.toArray none (some k) none)) (hb : s.heap.IsList b dvs.toArray)
    (hc : CarriedAll vs (fs.map fun y => PyData.str y)) (hd : CarriedAll dvs (ds.map fun y => PyData.str y)) (hk : 0 ≤ k ∧ k ≤ fs.length) (hf : fs.length ≤ 60) (hn : ds.length ≤ 60)
    (h : ∀ d h' us n, CarriedAll us ((fs.take k.toNat ++ ds).map fun y => PyData.str y) → Fr h₀ L h' m → News h₀ L h' ((d, listOf us.toArray n) :: news) → (∀ p ∈ news, @LT.lt Nat _ p.1 d) → Q (.ref d) { s with heap := h' }) :
    wpAny (model prog w) A (binaryOp .Add (.ref l) (.ref b)) Q E s := by
  have l1 := hc.length_eq
  have l2 := hd.length_eq
  rw [List.length_map] at l1 l2
  have hkn : k.toNat ≤ vs.length := by omega
  have e : PySem.slicePick vs.toArray none (some k) none = (vs.take k.toNat).toArray := by
    have := take_arr (vs := vs) hkn
    rwa [Int.toNat_of_nonneg hk.1] at this
  rw [e] at hl
  refine add_arrays F N hl hb (fun h' F' N' => ?_) (by rw [PySem.sizeLine_eq]; simp; omega)
  refine h _ h' (vs.take k.toNat ++ dvs) 0 ?_ F' N' fun p hp => Heap.lt_size (N p hp).1
  rw [List.map_append, List.map_take]
  exact (carried_take hc k.toNat).appendLM hd
end
theorem max0 (a : Nat) (u : Int) (h : 0 ≤ u) : 0 ≤ (if (a : Int) - u > 0 then (a : Int) - u else 0) ∧ (if (a : Int) - u > 0 then (a : Int) - u else 0) ≤ a := by
  split <;> omega
theorem max0_nat (a : Nat) (u : Int) (h : 0 ≤ u) : (if (a : Int) - u > 0 then (a : Int) - u else 0).toNat = a - u.toNat := by
  split <;> omega
end Mine
namespace Mine
theorem bne_t {a b : PySem.Str} (h : (a != b) = true) : a ≠ b := by simpa using h
theorem bne_f {a b : PySem.Str} (h : (a != b) = false) : a = b := by simpa using h
end Mine
end
section
open PySem PySem.W PyProof.Rows PySem.Calls PySem.Spec
namespace Mine
structure TS where
  host : Str
  th : Tok
  l : Addr
  vs : List Value
  n : Nat
  fs : List Str
  name : Str
  tn : Tok
  ta : Tok
  om : Obj
abbrev tsLed (e1 e2 e3 e4 : Addr × Obj) (cm : Addr) (e6 e7 e8 : Addr × Obj) (c : TS) : List (Addr × Obj) := (c.l, listOf c.vs.toArray c.n) :: e1 :: e2 :: e3 :: e4 :: (cm, c.om) :: e6 :: e7 :: [e8]
abbrev tsPs (c : TS) : List (Str × Value) := [(Str.ofString "address", .str (wr c.host c.fs c.name) c.ta), (Str.ofString "host", .str c.host c.th), (Str.ofString "folders", .ref c.l), (Str.ofString "name", .str c.name c.tn)]
structure TsFacts (a1 a2 a3 a4 cm a6 a7 a8 : Addr) (i : Nat) (c : TS) : Prop where
  hc : CarriedAll c.vs (c.fs.map fun y => PyData.str y)
  hn : c.fs.length ≤ 3 + 2 * i
  hg : ∀ f ∈ c.fs, GoodF f
  hm : GoodN c.name
  hh : HostOk c.host
  ne : @Ne Nat a1 c.l ∧ @Ne Nat a2 c.l ∧ @Ne Nat a3 c.l ∧ @Ne Nat a4 c.l ∧ @Ne Nat cm c.l ∧ @Ne Nat a6 c.l ∧ @Ne Nat a7 c.l ∧ @Ne Nat a8 c.l
  cell : ∃ v, c.om.data = .cell v
abbrev tsStored : List Str := [Str.ofString "drawn", Str.ofString "kind", Str.ofString "down", Str.ofString "end", Str.ofString "ups", Str.ofString "reference", Str.ofString "one", Str.ofString "row"]
section
variable {prog : Program} {w : World} {A : Around} {E : Value → Shared → Prop} {s : Shared} {env : Env} {h₀ : Heap} {Q : Flow → Shared → Prop}
theorem for_turns {x : Str} {body : List Stmt} {r : Addr} {b₀ : Int} {t₀ u₀ v₀ : Tok} {m₀ : Str → Option Value} {e1 e2 e3 e4 e6 e7 e8 : Addr × Obj} {cm : Addr} (c₀ : TS)
    (hh : A.handled = none) (hr : IsRange s.heap r 0 b₀ 1 t₀ u₀ v₀) (hb0 : 0 ≤ b₀) (hb1 : b₀ ≤ 8) (F : Fr h₀ env.locals s.heap m₀) (N : News h₀ env.locals s.heap (tsLed e1 e2 e3 e4 cm e6 e7 e8 c₀)) (hf : TsFacts e1.1 e2.1 e3.1 e4.1 cm e6.1 e7.1 e8.1 0 c₀) (hk : ∀ p ∈ tsPs c₀, m₀ p.1 = some p.2)
    (turn : ∀ (i : Nat) (k : Int) (c : TS) (t : Tok) (u : Str → Option Value) (h : Heap) (tk : Nat) (I : Addr) (oI : Obj), k = 0 + (i : Int) → 0 ≤ k → k < 8 → i < 8 → (∀ p ∈ tsLed e1 e2 e3 e4 cm e6 e7 e8 c, @Ne Nat p.1 I) → @LT.lt Nat _ env.locals I → TsFacts e1.1 e2.1 e3.1 e4.1 cm e6.1 e7.1 e8.1 i c →
      Fr h₀ env.locals h (fun y => if y = x then some (.int k t) else kstB (fun z => if tsStored.contains z then u z else m₀ z) (tsPs c) y) → News h₀ env.locals h ((I, oI) :: tsLed e1 e2 e3 e4 cm e6 e7 e8 c) →
      wpAny (model prog w) A (execs body env) (TurnPost h₀ env.locals { s with heap := h, toks := tk } (tsLed e1 e2 e3 e4 cm e6 e7 e8) tsPs (TsFacts e1.1 e2.1 e3.1 e4.1 cm e6.1 e7.1 e8.1) x tsStored m₀ I oI (i + 1) Q) E { s with heap := h, toks := tk })
    (done : ∀ (n : Nat) (c : TS) (u : Str → Option Value) (h : Heap) (tk : Nat), n ≤ 8 → TsFacts e1.1 e2.1 e3.1 e4.1 cm e6.1 e7.1 e8.1 n c → Fr h₀ env.locals h (fun y => if y = x then u y else kstB (fun z => if tsStored.contains z then u z else m₀ z) (tsPs c) y) → News h₀ env.locals h (tsLed e1 e2 e3 e4 cm e6 e7 e8 c) → Q .next { s with heap := h, toks := tk }) :
    wpAny (model prog w) A (pyIter (.ref r)) (fun it s₂ => LoopAtV prog w A h₀ env x body Q E it s₂) E s := by
  refine for_range (n := (b₀ - 0).toNat) (tsLed e1 e2 e3 e4 cm e6 e7 e8) tsPs (TsFacts e1.1 e2.1 e3.1 e4.1 cm e6.1 e7.1 e8.1) tsStored c₀ hh hr (small_one (by omega) (by omega) (by omega) (by omega)) (rangeSize_nat _ _) F N hf hk ?_ ?_
  · intro i k c t u h tk I oI hk hi hne _ hL hfa F N
    exact turn i k c t u h tk I oI hk (by omega) (by omega) (by omega) hne hL hfa F N
  · intro c u h tk hfa F N
    exact done _ c u h tk (by omega) hfa F N
end
end Mine
end
section
open PySem PySem.W PyProof.Rows PySem.Calls PySem.Spec
namespace Mine
/-! the base address: what join reads of it -/
theorem lit_colon : Str.ofString ":" = S [58] := by decide +kernel
theorem lit_sl2 : Str.ofString "//" = S [47, 47] := by decide +kernel
theorem lit_hash : Str.ofString "#" = S [35] := by decide +kernel
structure HereF (here : Str) (h : List Nat) (fs : List (List Nat)) (n sc : List Nat) : Prop where
  eq : here = S (adr h fs n)
  len : here.length ≤ 1000
  bc : Txt.find here (Str.ofString ":") = (sc.length : Int)
  s1 : (Txt.slice here (some (Txt.find here (Str.ofString ":") + 1)) (some (Txt.find here (Str.ofString ":") + 2)) != Str.ofString "/") = false
  s2 : (Txt.slice here (some (Txt.find here (Str.ofString ":") + 1)) (some (Txt.find here (Str.ofString ":") + 3)) == Str.ofString "//") = true
  bp : Txt.find3 here (Str.ofString "/") (Txt.find here (Str.ofString ":") + 3) = (h.length : Int)
  sr : Txt.rfind here (Str.ofString "/") = ((adr h fs []).length : Int) - 1
  toNet : Txt.slice here none (some (Txt.find here (Str.ofString ":") + 1)) = S (sc ++ [58])
  toPath : Txt.slice here none (some (Txt.find3 here (Str.ofString "/") (Txt.find here (Str.ofString ":") + 3))) = S h
  cleanF : ∀ f ∈ fs, Clean f
  cleanN : Clean n
theorem lists_clean {fs : List Str} (hg : ∀ f ∈ fs, GoodF f) : ∀ f ∈ lists fs, Clean f := fun f hf => by
  obtain ⟨g, hg', rfl⟩ := List.mem_map.mp hf
  exact (hg g hg').clean
theorem here_facts {host nm : Str} {fs : List Str} (hh : HostOk host) (hg : ∀ f ∈ fs, GoodF f) (hn : fs.length ≤ 60) (hm : GoodN nm) :
    ∃ sc nt, host.cps.toList = sc ++ 58 :: 47 :: 47 :: nt ∧ 58 ∉ sc ∧ 47 ∉ sc ∧ 47 ∉ nt ∧ sc.length ≤ 5 ∧ nt.length ≤ 4 ∧ HereF (wr host fs nm) host.cps.toList (lists fs) nm.cps.toList sc := by
  obtain ⟨sc, nt, rfl, h1, h2, h3, h4, h5, _⟩ := hh
  refine ⟨sc, nt, S_cps _, h1, h2, h3, h4, h5, ?_⟩
  rw [S_cps]
  have hH : (S (sc ++ 58 :: 47 :: 47 :: nt)).cps.toList = sc ++ 58 :: 47 :: 47 :: nt := S_cps _
  generalize hF : lists fs = F
  have e0 : wr (S (sc ++ 58 :: 47 :: 47 :: nt)) fs nm = S (adr (sc ++ 58 :: 47 :: 47 :: nt) F nm.cps.toList) := by
    unfold wr; rw [hH, ← hF]
  have eA : adr (sc ++ 58 :: 47 :: 47 :: nt) F nm.cps.toList = sc ++ 58 :: (47 :: 47 :: (nt ++ 47 :: (catF F ++ nm.cps.toList))) := by simp [adr]
  have bc : Txt.find (wr (S (sc ++ 58 :: 47 :: 47 :: nt)) fs nm) (Str.ofString ":") = (sc.length : Int) := by
    rw [e0, eA, lit_colon, find_at _ _ _ h1]
  have cat := catF_len fs 4 (GoodF.lens hg)
  have nl : nm.cps.toList.length ≤ 6 := by have := hm.2; simpa [Str.length] using this
  have lenA : (adr (sc ++ 58 :: 47 :: 47 :: nt) F nm.cps.toList).length = sc.length + 3 + nt.length + 1 + (catF F).length + nm.cps.toList.length := by
    simp [adr]; omega
  have catL : (catF F).length ≤ 300 := by rw [← hF]; unfold lists; omega
  have bp : Txt.find3 (wr (S (sc ++ 58 :: 47 :: 47 :: nt)) fs nm) (Str.ofString "/") ((sc.length : Int) + 3) = ((sc ++ 58 :: 47 :: 47 :: nt).length : Int) := by
    have := find3_at (sc ++ [58, 47, 47]) nt (catF F ++ nm.cps.toList) 47 h3
    rw [e0, eA, lit_slash]
    have e1 : sc ++ 58 :: 47 :: 47 :: (nt ++ 47 :: (catF F ++ nm.cps.toList)) = (sc ++ [58, 47, 47]) ++ (nt ++ 47 :: (catF F ++ nm.cps.toList)) := by simp
    have e2 : ((sc.length : Int) + 3) = (((sc ++ [58, 47, 47]).length : Nat) : Int) := by simp
    rw [e1, e2, this]
    simp
    omega
  refine ⟨e0, ?_, bc, ?_, ?_, ?_, ?_, ?_, ?_, ?_, hm.1⟩
  · rw [e0, S_len, lenA]; omega
  · rw [bc, e0, eA, lit_slash, show ((sc.length : Int) + 1) = ((sc.length + 1 : Nat) : Int) by omega, show ((sc.length : Int) + 2) = ((sc.length + 2 : Nat) : Int) by omega, slice_mid _ _ _ (by simp), S_bne]
    have : (sc ++ 58 :: 47 :: 47 :: (nt ++ 47 :: (catF F ++ nm.cps.toList))).drop (sc.length + 1) = 47 :: 47 :: (nt ++ 47 :: (catF F ++ nm.cps.toList)) := by
      rw [List.drop_append]; simp
    rw [this, show sc.length + 2 - (sc.length + 1) = 1 by omega]
    simp
  · rw [bc, e0, eA, lit_sl2, show ((sc.length : Int) + 1) = ((sc.length + 1 : Nat) : Int) by omega, show ((sc.length : Int) + 3) = ((sc.length + 3 : Nat) : Int) by omega, slice_mid _ _ _ (by simp), S_beq]
    have : (sc ++ 58 :: 47 :: 47 :: (nt ++ 47 :: (catF F ++ nm.cps.toList))).drop (sc.length + 1) = 47 :: 47 :: (nt ++ 47 :: (catF F ++ nm.cps.toList)) := by
      rw [List.drop_append]; simp
    rw [this, show sc.length + 3 - (sc.length + 1) = 2 by omega]
    simp
  · rw [bc]; exact bp
  · obtain ⟨m, hmm⟩ := slash_end F
    have e1 : adr (sc ++ 58 :: 47 :: 47 :: nt) F nm.cps.toList = ((sc ++ 58 :: 47 :: 47 :: nt) ++ m) ++ 47 :: nm.cps.toList := by
      unfold adr
      have : 47 :: (catF F ++ nm.cps.toList) = (47 :: catF F) ++ nm.cps.toList := by simp
      rw [this, hmm]; simp
    have e2 : adr (sc ++ 58 :: 47 :: 47 :: nt) F [] = ((sc ++ 58 :: 47 :: 47 :: nt) ++ m) ++ [47] := by
      unfold adr
      rw [List.append_nil, hmm]; simp
    rw [e0, e1, e2, lit_slash, rfind_at _ _ _ hm.1, List.length_append (bs := [47])]
    simp
  · rw [bc, e0, eA, show ((sc.length : Int) + 1) = ((sc.length + 1 : Nat) : Int) by omega, slice_to]
    congr 1
    rw [show sc ++ 58 :: (47 :: 47 :: (nt ++ 47 :: (catF F ++ nm.cps.toList))) = (sc ++ [58]) ++ (47 :: 47 :: (nt ++ 47 :: (catF F ++ nm.cps.toList))) by simp, show sc.length + 1 = (sc ++ [58]).length by simp, List.take_left]
  · rw [bc, bp, e0, slice_to]
    congr 1
    unfold adr
    rw [List.take_left]
  · rw [← hF]; exact lists_clean hg
end Mine
end
section
open PySem PySem.W PyProof.Rows PySem.Calls PySem.Spec
namespace Mine
/-! join's answers for the law's own references -/
theorem find_ge (x y : Str) : -1 ≤ Txt.find x y := by rw [find_is_find3]; exact find3_geG x y 0
theorem find_in (P Q : List Nat) (c : Nat) (h : c ∈ P) : 0 ≤ Txt.find (S (P ++ Q)) (S [c]) ∧ Txt.find (S (P ++ Q)) (S [c]) < P.length := by
  obtain ⟨a, b, hP, ha⟩ := List.eq_append_cons_of_mem h
  rw [hP, List.append_assoc, List.cons_append, find_at _ _ _ ha]
  simp
  omega
theorem mem_ups {x u : Nat} (h : x ∈ ups u) : x = 46 ∨ x = 47 := by
  induction u with
  | zero => simp [ups] at h
  | succ k ih => simp [ups] at h; rcases h with h | h | h <;> first | exact .inl h | exact .inr h | exact ih h
theorem mem_cat {x : Nat} {ds : List Str} (hg : ∀ d ∈ ds, GoodF d) (h : x ∈ catF (lists ds)) : x = 47 ∨ x = 100 ∨ x = 102 ∨ (48 ≤ x ∧ x ≤ 57) := by
  unfold catF lists at h
  obtain ⟨l, hl, hx⟩ := List.mem_flatten.mp h
  obtain ⟨l', hl', rfl⟩ := List.mem_map.mp hl
  obtain ⟨d, hd, rfl⟩ := List.mem_map.mp hl'
  obtain ⟨a, b, rfl, ha, hb1, hb2⟩ := hg d hd
  rw [S_cps] at hx
  simp at hx
  omega
theorem mem_end {x : Nat} {ds : List Str} {e : Str} (he : EndOk ds e) (h : x ∈ e.cps.toList) : x = 122 ∨ x = 121 ∨ x = 58 ∨ x = 113 ∨ x = 46 := by
  rcases he with rfl | rfl | ⟨_, rfl⟩ | rfl
  · rw [e_cps] at h; simp at h
  · rw [z_cps] at h; simp at h; omega
  · rw [yq_cps] at h; simp at h; omega
  · rw [ydq_cps] at h; simp at h; omega
theorem head_cat {c : Nat} {t : List Nat} {ds : List Str} {e : Str} (hg : ∀ d ∈ ds, GoodF d) (he : EndOk ds e) (h : catF (lists ds) ++ e.cps.toList = c :: t) : c = 100 ∨ c = 102 ∨ c = 122 ∨ c = 121 := by
  cases ds with
  | cons d r =>
    obtain ⟨a, b, hd, ha, _, _⟩ := hg d (List.mem_cons_self ..)
    unfold lists at h
    rw [List.map_cons, catF_cons, hd, S_cps] at h
    have := (List.cons.inj h).1
    omega
  | nil =>
    have e3 : catF (lists []) = [] := rfl
    rw [e3, List.nil_append] at h
    rcases he with rfl | rfl | ⟨hne, rfl⟩ | rfl
    · rw [e_cps] at h; cases h
    · rw [z_cps] at h; have := (List.cons.inj h).1; omega
    · exact absurd rfl hne
    · rw [ydq_cps] at h; have := (List.cons.inj h).1; omega
/-- where the colon of a relative reference lies -/
theorem colon_rel {u : Nat} {ds : List Str} {e : Str} (hg : ∀ d ∈ ds, GoodF d) (he : EndOk ds e) (P : List Nat) (hP : 58 ∉ P) (hPu : ds = [] ∨ 47 ∈ P ++ catF (lists ds)) :
    Txt.find (S (P ++ (catF (lists ds) ++ e.cps.toList))) (Str.ofString ":") < 0 ∨
    (0 ≤ Txt.find (S (P ++ (catF (lists ds) ++ e.cps.toList))) (Str.ofString ":") ∧ ¬ Txt.find (S (P ++ (catF (lists ds) ++ e.cps.toList))) (Str.ofString "/") < 0 ∧
      ¬ Txt.find (S (P ++ (catF (lists ds) ++ e.cps.toList))) (Str.ofString ":") < Txt.find (S (P ++ (catF (lists ds) ++ e.cps.toList))) (Str.ofString "/")) := by
  have hC : 58 ∉ catF (lists ds) := fun h => by have := mem_cat hg h; omega
  rw [lit_colon, lit_slash]
  by_cases hc : 58 ∈ e.cps.toList
  · have hE : ds ≠ [] ∧ e = Str.ofString "y:q" := by
      rcases he with rfl | rfl | h | rfl
      · rw [e_cps] at hc; simp at hc
      · rw [z_cps] at hc; simp at hc
      · exact h
      · rw [ydq_cps] at hc; simp at hc
    obtain ⟨hne, rfl⟩ := hE
    have hs : 47 ∈ P ++ catF (lists ds) := hPu.resolve_left hne
    have e1 : P ++ (catF (lists ds) ++ (Str.ofString "y:q").cps.toList) = (P ++ catF (lists ds)) ++ [121, 58, 113] := by rw [yq_cps]; simp
    have e2 : P ++ (catF (lists ds) ++ (Str.ofString "y:q").cps.toList) = ((P ++ catF (lists ds)) ++ [121]) ++ 58 :: [113] := by rw [yq_cps]; simp
    have f1 := find_in (P ++ catF (lists ds)) [121, 58, 113] 47 hs
    rw [← e1] at f1
    have f2 := find_at ((P ++ catF (lists ds)) ++ [121]) [113] 58 (by simp; exact ⟨hP, hC⟩)
    rw [← e2] at f2
    right
    rw [f2]
    simp at f1 ⊢
    omega
  · left
    rw [find_none _ _ (by simp; exact ⟨hP, hC, by simpa using hc⟩)]
    decide
theorem wr_app (host : Str) (as ds : List Str) (e : Str) : wr host (as ++ ds) e = S (adr host.cps.toList (lists as) (catF (lists ds) ++ e.cps.toList)) := by
  unfold wr adr lists
  rw [List.map_append, catF_append]
  simp
theorem ofS {s : Str} (h : s.cps.toList = []) : s = Str.ofString "" := by
  rw [← S_list s, h, lit_empty]
theorem app_empty (x : Str) : x ++ Str.ofString "" = x := by rw [lit_empty, ← S_list x, S_app, List.append_nil]
section
variable {w : World} {host nm : Str} {fs : List Str}
theorem jg_empty (hh : HostOk host) (hg : ∀ f ∈ fs, GoodF f) (hn : fs.length ≤ 60) (hm : GoodN nm) : JoinGives w (wr host fs nm) (Str.ofString "") (wr host fs nm) := by
  obtain ⟨sc, nt, _, _, _, _, _, _, H⟩ := here_facts hh hg hn hm
  have := join_empty w (wr host fs nm) (Str.ofString "") H.len (by decide +kernel) (by rw [lit_empty, lit_colon, find_none _ _ (by simp)]; decide) (by rw [lit_empty, lit_hash, rfind_none _ _ (by simp)]; decide) (by rw [H.bc]; omega) (by decide +kernel)
  rwa [app_empty] at this
theorem jg_rel {u : Nat} {ds : List Str} {e r : Str} (hh : HostOk host) (hg : ∀ f ∈ fs, GoodF f) (hn : fs.length ≤ 60) (hm : GoodN nm) (hu : u ≤ 20) (hdg : ∀ d ∈ ds, GoodF d) (hdn : ds.length ≤ 2) (he : EndOk ds e) (hr : RefOk u ds e r) (hne : r ≠ Str.ofString "") :
    JoinGives w (wr host fs nm) r (wr host (fs.take (fs.length - u) ++ ds) e) := by
  obtain ⟨sc, nt, _, _, _, _, _, _, H⟩ := here_facts hh hg hn hm
  have hcat := catF_len ds 4 (GoodF.lens hdg)
  have hel : e.cps.toList.length ≤ 6 := by have := he.good.2; simpa [Str.length] using this
  have hcl : (catF (lists ds)).length ≤ 10 := by unfold lists; omega
  have hrest : NoDot (catF (lists ds) ++ e.cps.toList) := fun c t h => by have := head_cat hdg he h; omega
  have hP : 58 ∉ ups u := fun h => by have := mem_ups h; omega
  have ap := adr_len_pos host.cps.toList (lists fs) nm.cps.toList
  have hlen := H.len
  rw [wr_app]
  have tk : lists (fs.take (fs.length - u)) = (lists fs).take ((lists fs).length - u) := by unfold lists; rw [List.map_take, List.length_map]
  rw [tk]
  have mk : ∀ l : List Nat, r = S l → l.length ≤ 200 → (∀ c t, l = c :: t → c ≠ 47) → (35 ∉ l) →
      (Txt.find r (Str.ofString ":") < 0 ∨ (0 ≤ Txt.find r (Str.ofString ":") ∧ ¬ Txt.find r (Str.ofString "/") < 0 ∧ ¬ Txt.find r (Str.ofString ":") < Txt.find r (Str.ofString "/"))) →
      WInv host.cps.toList ((lists fs).take ((lists fs).length - u)) (catF (lists ds) ++ e.cps.toList) r (wr host fs nm) (Txt.rfind (wr host fs nm) (Str.ofString "/")) →
      JoinGives w (wr host fs nm) r (S (adr host.cps.toList ((lists fs).take ((lists fs).length - u)) (catF (lists ds) ++ e.cps.toList))) := by
    intro l hl hll hhead h35 hna hw
    refine join_rel w (wr host fs nm) r H.len (by rw [hl, S_len]; omega) (by rw [H.bc]; omega) H.s1 H.s2 (by rw [H.bp]; omega) hna ?_ ?_ ?_ ?_ host.cps.toList _ _ hrest H.bp hw
    · rw [hl, lit_hash, rfind_none _ _ h35]; decide
    · rw [hl, S_len]
      intro h0
      have : l = [] := List.eq_nil_of_length_eq_zero (by omega)
      exact hne (by rw [hl, this, lit_empty])
    · rw [hl, show (2 : Int) = ((2 : Nat) : Int) from rfl, slice_to, lit_sl2, S_beq]
      refine beq_false_of_ne fun h => ?_
      cases l with
      | nil => simp at h
      | cons c t => simp at h; exact hhead c t rfl h.1
    · rw [hl, show (1 : Int) = ((1 : Nat) : Int) from rfl, slice_to, lit_slash, S_beq]
      refine beq_false_of_ne fun h => ?_
      cases l with
      | nil => simp at h
      | cons c t => simp at h; exact hhead c t rfl h
  have hsl : 0 ≤ Txt.rfind (wr host fs nm) (Str.ofString "/") ∧ Txt.rfind (wr host fs nm) (Str.ofString "/") < (wr host fs nm).length := by
    have e1 := H.eq
    rw [H.sr, H.eq, S_len]; omega
  rcases hr with hr | ⟨hd0, he0, k, hk, hr⟩
  · refine mk _ hr ?_ ?_ ?_ ?_ ?_
    · rw [List.length_append, List.length_append, ups_len]; omega
    · intro c t h
      cases u with
      | zero => have := head_cat hdg he h; omega
      | succ k => have := (List.cons.inj h).1; omega
    · simp only [List.mem_append, not_or]
      exact ⟨fun h => by have := mem_ups h; omega, fun h => by have := mem_cat hdg h; omega, fun h => by have := mem_end he h; omega⟩
    · rw [hr]
      refine colon_rel (u := u) hdg he _ hP ?_
      cases ds with
      | nil => exact .inl rfl
      | cons d t => right; unfold lists; rw [List.map_cons, catF_cons]; simp
    · refine ⟨?_, H.len, hsl.1, hsl.2, u, lists fs, nm.cps.toList, .inl hr, H.eq, H.sr, H.cleanF, H.cleanN, rfl⟩
      rw [hr, S_len, List.length_append, List.length_append, ups_len]; omega
  · subst hd0 he0
    have e3 : catF (lists []) ++ (Str.ofString "").cps.toList = [] := by rw [e_cps]; rfl
    refine mk _ hr ?_ ?_ ?_ ?_ ?_
    · rw [List.length_append, ups_len]; simp; omega
    · intro c t h
      cases k with
      | zero => have := (List.cons.inj h).1; omega
      | succ k => have := (List.cons.inj h).1; omega
    · simp only [List.mem_append, not_or]
      exact ⟨fun h => by have := mem_ups h; omega, by simp⟩
    · left
      rw [hr, lit_colon, find_none _ _ (by simp only [List.mem_append, not_or]; exact ⟨fun h => by have := mem_ups h; omega, by simp⟩)]
      decide
    · refine ⟨?_, H.len, hsl.1, hsl.2, u, lists fs, nm.cps.toList, .inr ⟨e3, k, hk, hr⟩, H.eq, H.sr, H.cleanF, H.cleanN, rfl⟩
      rw [hr, S_len, List.length_append, ups_len]; simp; omega
end
end Mine
end
section
open PySem PySem.W PyProof.Rows PySem.Calls PySem.Spec
namespace Mine
theorem stepA {w : World} {host nm nm' e r : Str} {fs fs' ds : List Str} {u : Nat} (hh : HostOk host) (hg : ∀ f ∈ fs, GoodF f) (hn : fs.length ≤ 60) (hm : GoodN nm) (hu : u ≤ 20) (hdg : ∀ d ∈ ds, GoodF d) (hdn : ds.length ≤ 2) (he : EndOk ds e) (hr : RefOk u ds e r)
    (hf : (r = Str.ofString "" ∧ fs' = fs ∧ nm' = nm) ∨ (r ≠ Str.ofString "" ∧ fs' = fs.take (fs.length - u) ++ ds ∧ nm' = e)) :
    JoinGives w (wr host fs nm) r (wr host fs' nm') ∧ (∀ f ∈ fs', GoodF f) ∧ fs'.length ≤ fs.length + 2 ∧ GoodN nm' := by
  rcases hf with ⟨rfl, rfl, rfl⟩ | ⟨hne, rfl, rfl⟩
  · exact ⟨jg_empty hh hg hn hm, hg, by omega, hm⟩
  · refine ⟨jg_rel hh hg hn hm hu hdg hdn he hr hne, fun f hf => ?_, ?_, he.good⟩
    · rcases List.mem_append.mp hf with h | h
      · exact hg f (List.mem_of_mem_take h)
      · exact hdg f h
    · rw [List.length_append, List.length_take]; omega
theorem self_ne (x : Str) : (x != x) = false := by simp
section
variable {w : World} {p : Program} {loose : List Str} {mean : ExcName → Option Value} {mg mb : Str → Option Value} {dp un : Nat} {gd : Option (List Code)} {cn : Str} {cs : Scope} {a : Addr} {ccd : Value} {cl : List (Str × Addr)} {outer : List Env} {A₀ : Around} {base h₀ : Heap} {L : Addr} {m : Str → Option Value} {s : Shared} {Q E : Value → Shared → Prop} {news : List (Addr × Obj)}
theorem JoinGives.use {here there r : Str} {t1 t2 : Tok} (J : JoinGives w here there r) (B : Below A₀ base outer h₀) (F : Fr h₀ L s.heap m) (X : (Mine.hd.heap_39 w.params).In h₀) (N : News h₀ L s.heap news) (T : Top p loose mean mg mb h₀)
    (hk : cs.kind = .function) (hd : dp + 1 < recursionLimit) (hu : un + 8 < cLine)
    (h : ∀ (t : Tok) (h' : Heap) (tk' : Nat), Fr h₀ L h' m → News h₀ L h' news → Q (.str r t) { s with heap := h', toks := tk' }) :
    wpAny (model PySem.Challenge.rw_er0021_01.row.prog w) (ktrTop dp un gd cn cs L a ccd cl outer) (call (.ref 29) [.str here t1, .str there t2]) Q E s :=
  J p loose mean mg mb t1 t2 news dp un gd cn cs a ccd cl outer A₀ base h₀ L m s Q E B F X N T hk hd hu h
end
end Mine
end
section
open PySem PySem.W PyProof.Rows PySem.Calls PySem.Spec
namespace Mine
theorem carried1 {vs : List Value} {d : Str} (h : CarriedAll vs ([d].map fun y => PyData.str y)) : ∃ t, vs = [.str d t] := by
  cases h with
  | cons c r =>
    cases r
    cases c with
    | str x t => exact ⟨t, rfl⟩
theorem carried2 {vs : List Value} {d e : Str} (h : CarriedAll vs ([d, e].map fun y => PyData.str y)) : ∃ t u, vs = [.str d t, .str e u] := by
  cases h with
  | cons c r =>
    cases c with
    | str x t =>
      obtain ⟨u, rfl⟩ := carried1 (d := e) r
      exact ⟨t, u, rfl⟩
theorem upto2 {ds : List Str} (h : ds.length ≤ 2) : ds = [] ∨ (∃ d, ds = [d]) ∨ ∃ d e, ds = [d, e] := by
  match ds, h with
  | [], _ => exact .inl rfl
  | [d], _ => exact .inr (.inl ⟨d, rfl⟩)
  | [d, e], _ => exact .inr (.inr ⟨d, e, rfl⟩)
theorem cmp_self (host e : Str) (fs : List Str) (k : Int) (h0 : 0 ≤ k) : (wr host (List.take (fs.length - Int.toNat k) fs) e != wr host (List.take ((fs.length : Int) - k).toNat fs) e) = false := by
  rw [show ((fs.length : Int) - k).toNat = fs.length - k.toNat by omega]; simp
theorem jg_up {w : World} {host nm J : Str} {fs : List Str} {k : Int} {x9 y9 z9 : Str} (u9j : JoinGives w x9 y9 z9) (hh : HostOk host) (hg : ∀ f ∈ fs, GoodF f) (hn : fs.length ≤ 60) (hm : GoodN nm) (hJ : J = S (ups k.toNat)) (h0 : 0 < k) (h1 : k ≤ 20) :
    JoinGives w (wr host fs nm) J (wr host (fs.take (fs.length - k.toNat)) (Str.ofString "")) := by
  have e3 : ups k.toNat ++ (catF (lists []) ++ (Str.ofString "").cps.toList) = ups k.toNat := by rw [e_cps]; simp [catF, lists]
  have hne : J ≠ Str.ofString "" := fun e => by
    rw [hJ, lit_empty] at e
    have := S_inj e
    obtain ⟨n, hn⟩ : ∃ n, k.toNat = n + 1 := ⟨k.toNat - 1, by omega⟩
    rw [hn] at this
    cases this
  have := jg_rel (w := w) (u := k.toNat) (ds := []) (e := Str.ofString "") (r := J) hh hg hn hm (by omega) (fun _ h => nomatch h) (by simp) (.inl rfl) (.inl (by rw [hJ, e3])) hne
  rwa [List.append_nil] at this
theorem jg_down {w : World} {host nm d : Str} {fs : List Str} {x9 y9 z9 : Str} (u9j : JoinGives w x9 y9 z9) (hh : HostOk host) (hg : ∀ f ∈ fs, GoodF f) (hn : fs.length ≤ 60) (hm : GoodN nm) (hd : GoodF d) :
    JoinGives w (wr host fs nm) (d ++ Str.ofString "/") (wr host (fs ++ [d]) (Str.ofString "")) := by
  have hne : d ++ Str.ofString "/" ≠ Str.ofString "" := fun e => by
    have := congrArg Str.length e
    rw [Str.length_append, slash_len, empty_len] at this
    omega
  have e1 : d ++ Str.ofString "/" = S (ups 0 ++ (catF (lists [d]) ++ (Str.ofString "").cps.toList)) := by
    obtain ⟨a, b, rfl, _⟩ := hd
    rw [lit_slash, S_app, e_cps]
    simp [catF, lists, ups, S_cps]
  have := jg_rel (w := w) (u := 0) (ds := [d]) (e := Str.ofString "") (r := d ++ Str.ofString "/") hh hg hn hm (by omega) (fun x h => by simp at h; subst h; exact hd) (by simp) (.inl rfl) (.inl e1) hne
  rwa [Nat.sub_zero, List.take_length] at this
theorem jg_last {w : World} {host nm d e : Str} {fs : List Str} {x9 y9 z9 : Str} (u9j : JoinGives w x9 y9 z9) (hh : HostOk host) (hg : ∀ f ∈ fs, GoodF f) (hn : fs.length ≤ 60) (hm : GoodN nm) (hd : GoodF d) (he : EndOk [d] e) :
    JoinGives w (wr host fs nm) (d ++ Str.ofString "/" ++ e) (wr host (fs ++ [d]) e) := by
  have hne : d ++ Str.ofString "/" ++ e ≠ Str.ofString "" := fun h => by
    have := congrArg Str.length h
    rw [Str.length_append, Str.length_append, slash_len, empty_len] at this
    omega
  have e1 : d ++ Str.ofString "/" ++ e = S (ups 0 ++ (catF (lists [d]) ++ e.cps.toList)) := by
    obtain ⟨a, b, rfl, _⟩ := hd
    rw [lit_slash, S_app, ← S_list e, S_app, S_cps]
    simp [catF, lists, ups, S_cps]
  have := jg_rel (w := w) (u := 0) (ds := [d]) (e := e) (r := d ++ Str.ofString "/" ++ e) hh hg hn hm (by omega) (fun x h => by simp at h; subst h; exact hd) (by simp) he (.inl e1) hne
  rwa [Nat.sub_zero, List.take_length] at this
section
variable {w : World} {p : Program} {loose : List Str} {mean : ExcName → Option Value} {mg mb : Str → Option Value} {dp un : Nat} {gd : Option (List Code)} {cn : Str} {cs : Scope} {a : Addr} {ccd : Value} {cl : List (Str × Addr)} {outer : List Env} {A₀ : Around} {base h₀ : Heap} {L : Addr} {m : Str → Option Value} {s : Shared} {Q E : Value → Shared → Prop} {news : List (Addr × Obj)}
theorem WrittenOk.use2 {e1 e2 : Addr × Obj} {host : Str} {t1 : Tok} {l : Addr} {vs : List Value} {k : Int} {fs : List Str} {name : Str} {t2 : Tok} (D : WrittenOk w p loose mean mg mb e1 e2) (B : Below A₀ base outer h₀) (F : Fr h₀ L s.heap m) (X : (Mine.hd.heap_39 w.params).In h₀) (N : News h₀ L s.heap news) (T : Top p loose mean mg mb h₀)
    (h1 : e1 ∈ news) (h2 : e2 ∈ news) (h3 : (l, ({ cls := .type "list", data := .seq (PySem.slicePick vs.toArray none (some k) none) } : Obj)) ∈ news) (hk : cs.kind = .function) (hc : CarriedAll vs (fs.map fun y => PyData.str y)) (hkk : 0 ≤ k ∧ k ≤ fs.length) (hn : fs.length ≤ 60) (hb : ∀ f ∈ fs, f.length ≤ 4) (hh : host.length ≤ 100) (hm : name.length ≤ 100) (hd : dp + 2 < recursionLimit) (hu : un + 16 < cLine)
    (h : ∀ (t : Tok) (h' : Heap) (tk' : Nat), Fr h₀ L h' m → News h₀ L h' news → Q (.str (wr host (fs.take k.toNat) name) t) { s with heap := h', toks := tk' }) :
    wpAny (model PySem.Challenge.rw_er0021_01.row.prog w) (ktrTop dp un gd cn cs L a ccd cl outer) (call (.ref e1.1) [.str host t1, .ref l, .str name t2]) Q E s := by
  have l1 := hc.length_eq
  rw [List.length_map] at l1
  have e : PySem.slicePick vs.toArray none (some k) none = (vs.take k.toNat).toArray := by
    have := take_arr (vs := vs) (k := k.toNat) (by omega)
    rwa [Int.toNat_of_nonneg hkk.1] at this
  rw [e] at h3
  refine D.use B F X N T h1 h2 h3 hk (fs := fs.take k.toNat) (by rw [List.map_take]; exact carried_take hc k.toNat) (by rw [List.length_take]; omega) (fun f hf => hb f (List.mem_of_mem_take hf)) hh hm hd hu h
end
end Mine
end
section
open PySem PySem.W PyProof.Rows PySem.Calls PySem.Spec
namespace Mine
/-! join's answers for a path from the root, another host, a whole address, a fragment -/
theorem beq_S_ne {a b : List Nat} (h : a ≠ b) : (S a == S b) = false := by rw [S_beq]; exact beq_false_of_ne h
theorem ref_short {ds : List Str} {e : Str} (hdg : ∀ d ∈ ds, GoodF d) (hdn : ds.length ≤ 2) (he : EndOk ds e) : (catF (lists ds) ++ e.cps.toList).length ≤ 16 ∧ 35 ∉ catF (lists ds) ++ e.cps.toList := by
  have hcat := catF_len ds 4 (GoodF.lens hdg)
  have hel : e.cps.toList.length ≤ 6 := by have := he.good.2; simpa [Str.length] using this
  have hcl : (catF (lists ds)).length ≤ 10 := by unfold lists; omega
  refine ⟨by rw [List.length_append]; omega, ?_⟩
  simp only [List.mem_append, not_or]
  exact ⟨fun h => by have := mem_cat hdg h; omega, fun h => by have := mem_end he h; omega⟩
theorem colon_P {ds : List Str} {e : Str} (hg : ∀ d ∈ ds, GoodF d) (he : EndOk ds e) (P : List Nat) (hP : 58 ∉ P) (hs : 47 ∈ P) :
    Txt.find (S (P ++ (catF (lists ds) ++ e.cps.toList))) (Str.ofString ":") < 0 ∨
    (0 ≤ Txt.find (S (P ++ (catF (lists ds) ++ e.cps.toList))) (Str.ofString ":") ∧ ¬ Txt.find (S (P ++ (catF (lists ds) ++ e.cps.toList))) (Str.ofString "/") < 0 ∧
      ¬ Txt.find (S (P ++ (catF (lists ds) ++ e.cps.toList))) (Str.ofString ":") < Txt.find (S (P ++ (catF (lists ds) ++ e.cps.toList))) (Str.ofString "/")) :=
  colon_rel (u := 0) hg he P hP (.inr (List.mem_append_left _ hs))
section
variable {w : World} {host nm e : Str} {fs ds : List Str}
theorem jg_root (hh : HostOk host) (hg : ∀ f ∈ fs, GoodF f) (hn : fs.length ≤ 60) (hm : GoodN nm) (hdg : ∀ d ∈ ds, GoodF d) (hdn : ds.length ≤ 2) (he : EndOk ds e) :
    JoinGives w (wr host fs nm) (wr (Str.ofString "") ds e) (wr host ds e) := by
  obtain ⟨sc, nt, _, _, _, _, _, _, H⟩ := here_facts hh hg hn hm
  obtain ⟨hl, h35⟩ := ref_short hdg hdn he
  have eW : wr (Str.ofString "") ds e = S ([47] ++ (catF (lists ds) ++ e.cps.toList)) := by unfold wr adr; rw [e_cps]; rfl
  have e2 : wr host ds e = S host.cps.toList ++ wr (Str.ofString "") ds e := by rw [eW, S_app]; rfl
  have hcol := colon_P hdg he [47] (by simp) (by simp)
  rw [← eW] at hcol
  rw [e2, ← H.toPath]
  refine join_root w (wr host fs nm) (wr (Str.ofString "") ds e) H.len (by rw [eW, S_len, List.length_append]; simp only [List.length_singleton]; omega) (by rw [H.bc]; omega) H.s1 H.s2 (by rw [H.bp]; omega) hcol ?_ ?_ ?_ ?_
  · rw [eW, lit_hash, rfind_none _ _ (by rw [List.mem_append, not_or]; exact ⟨by simp, h35⟩)]; decide
  · rw [eW, S_len, List.length_append]; simp only [List.length_singleton]; omega
  · rw [eW, show (2 : Int) = ((2 : Nat) : Int) from rfl, slice_to, lit_sl2]
    refine beq_S_ne fun h => ?_
    cases hx : catF (lists ds) ++ e.cps.toList with
    | nil => rw [hx] at h; cases h
    | cons c t => rw [hx] at h; have := head_cat hdg he hx; simp at h; omega
  · rw [eW, show (1 : Int) = ((1 : Nat) : Int) from rfl, slice_to, lit_slash, S_beq]
    simp
theorem jg_net {c : Nat} (hh : HostOk host) (hg : ∀ f ∈ fs, GoodF f) (hn : fs.length ≤ 60) (hm : GoodN nm) (hdg : ∀ d ∈ ds, GoodF d) (hdn : ds.length ≤ 2) (he : EndOk ds e) (hc : 48 ≤ c ∧ c ≤ 57) :
    JoinGives w (wr host fs nm) (wr (S [47, 47, 104, c]) ds e) (wr (Txt.slice (wr host fs nm) none (some (Txt.find (wr host fs nm) (Str.ofString ":") + 1)) ++ S [47, 47, 104, c]) ds e) := by
  obtain ⟨sc, nt, _, _, _, _, _, _, H⟩ := here_facts hh hg hn hm
  obtain ⟨hl, h35⟩ := ref_short hdg hdn he
  have eW : wr (S [47, 47, 104, c]) ds e = S ([47, 47, 104, c, 47] ++ (catF (lists ds) ++ e.cps.toList)) := by unfold wr adr; rw [S_cps]; rfl
  have e2 : wr (Txt.slice (wr host fs nm) none (some (Txt.find (wr host fs nm) (Str.ofString ":") + 1)) ++ S [47, 47, 104, c]) ds e = Txt.slice (wr host fs nm) none (some (Txt.find (wr host fs nm) (Str.ofString ":") + 1)) ++ wr (S [47, 47, 104, c]) ds e := by
    rw [eW, H.toNet, S_app, S_app]
    unfold wr adr
    rw [S_cps]
    simp
  have hcol := colon_P hdg he [47, 47, 104, c, 47] (by simp; omega) (by simp)
  rw [← eW] at hcol
  rw [e2]
  refine join_net w (wr host fs nm) (wr (S [47, 47, 104, c]) ds e) H.len (by rw [eW, S_len, List.length_append]; simp only [List.length_cons, List.length_nil]; omega) (by rw [H.bc]; omega) H.s1 H.s2 (by rw [H.bp]; omega) hcol ?_ ?_ ?_
  · rw [eW, lit_hash, rfind_none _ _ (by rw [List.mem_append, not_or]; exact ⟨by simp; omega, h35⟩)]; decide
  · rw [eW, S_len, List.length_append]; simp only [List.length_cons, List.length_nil]; omega
  · rw [eW, show (2 : Int) = ((2 : Nat) : Int) from rfl, slice_to, lit_sl2, S_beq]
    simp
/-- a whole address, with whatever stands behind it -/
theorem jg_abs {here f there : Str} (hh : HostOk host) (hg : ∀ d ∈ ds, GoodF d) (hn : ds.length ≤ 60) (hm : GoodN e) (hf : f.length ≤ 100) (ht : there = wr host ds e ++ f) : JoinGives w here there there := by
  subst ht
  obtain ⟨sc, nt, hH, h1, h2, h3, h4, h5, H⟩ := here_facts hh hg hn hm
  have lw : (wr host ds e).length ≤ 500 := by
    have hcat := catF_len ds 4 (GoodF.lens hg)
    have nl : e.cps.toList.length ≤ 6 := by have := hm.2; simpa [Str.length] using this
    unfold wr adr
    rw [S_len, hH]
    simp only [List.length_append, List.length_cons]
    omega
  have e0 : wr host ds e ++ f = S (sc ++ 58 :: (47 :: 47 :: (nt ++ 47 :: (catF (lists ds) ++ e.cps.toList)) ++ f.cps.toList)) := by
    have : f = S f.cps.toList := (S_list f).symm
    rw [this, S_cps]
    unfold wr adr
    rw [hH, S_app]
    simp
  have c1 : Txt.find (wr host ds e ++ f) (Str.ofString ":") = (sc.length : Int) := by rw [e0, lit_colon, find_at _ _ _ h1]
  have c2 : Txt.find (wr host ds e ++ f) (Str.ofString "/") = ((sc ++ [58]).length : Int) := by
    have := find_at (sc ++ [58]) (47 :: (nt ++ 47 :: (catF (lists ds) ++ e.cps.toList)) ++ f.cps.toList) 47 (by simp; exact h2)
    rw [e0, lit_slash, ← this]
    congr 2
    simp
  refine join_abs w here _ (by rw [Str.length_append]; omega) (by rw [c1]; omega) (by rw [c2]; omega) (by rw [c1, c2, List.length_append]; simp only [List.length_singleton]; omega)
theorem jg_frag {l : List Nat} {fr : Str} (hh : HostOk host) (hg : ∀ f ∈ fs, GoodF f) (hn : fs.length ≤ 60) (hm : GoodN nm) (hl : l.length ≤ 100) (h58 : 58 ∉ l) (h35 : 35 ∉ l) (hf : fr = S (35 :: l)) :
    JoinGives w (wr host fs nm) fr (wr host fs nm ++ fr) := by
  subst hf
  obtain ⟨sc, nt, _, _, _, _, _, _, H⟩ := here_facts hh hg hn hm
  have hr : Txt.rfind (S (35 :: l)) (Str.ofString "#") = ((0 : Nat) : Int) := by
    have := rfind_at [] l 35 h35
    rw [lit_hash]; simpa using this
  have hs : Txt.slice (S (35 :: l)) (some (Txt.rfind (S (35 :: l)) (Str.ofString "#"))) none = S (35 :: l) := by rw [hr, slice_from]; rfl
  have := join_frag w (wr host fs nm) (S (35 :: l)) H.len (by rw [S_len]; simp; omega) (by rw [lit_colon, find_none _ _ (by simp; exact h58)]; decide) (by rw [hr]; omega) (by rw [H.bc]; omega) (by rw [hr, slice_to]; simp [S_len])
  rwa [hs] at this
theorem jg_km {l : List Nat} {fr : Str} (hh : HostOk host) (hg : ∀ f ∈ fs, GoodF f) (hn : fs.length ≤ 60) (hm : GoodN nm) (hl : l.length ≤ 100) (h58 : 58 ∉ l) (h35 : 35 ∉ l) (hf : fr = S (35 :: l)) :
    JoinGives w (wr host fs nm) (Str.ofString "k/m" ++ fr) (wr host (fs ++ [Str.ofString "k"]) (Str.ofString "m") ++ fr) := by
  subst hf
  obtain ⟨sc, nt, _, _, _, _, _, _, H⟩ := here_facts hh hg hn hm
  have hkm : Str.ofString "k/m" = S [107, 47, 109] := by decide +kernel
  have hk : (Str.ofString "k").cps.toList = [107] := by decide +kernel
  have hmm : (Str.ofString "m").cps.toList = [109] := by decide +kernel
  have e0 : Str.ofString "k/m" ++ S (35 :: l) = S ([107, 47, 109] ++ 35 :: l) := by rw [hkm, S_app]
  have hr : Txt.rfind (S ([107, 47, 109] ++ 35 :: l)) (Str.ofString "#") = ((3 : Nat) : Int) := by
    rw [lit_hash, rfind_at [107, 47, 109] l 35 h35]; rfl
  have hs : Txt.slice (S ([107, 47, 109] ++ 35 :: l)) (some (Txt.rfind (S ([107, 47, 109] ++ 35 :: l)) (Str.ofString "#"))) none = S (35 :: l) := by rw [hr, slice_from]; rfl
  have hp : Txt.slice (S ([107, 47, 109] ++ 35 :: l)) none (some (Txt.rfind (S ([107, 47, 109] ++ 35 :: l)) (Str.ofString "#"))) = S [107, 47, 109] := by rw [hr, slice_to]; rfl
  have ap := adr_len_pos host.cps.toList (lists fs) nm.cps.toList
  have hsl : 0 ≤ Txt.rfind (wr host fs nm) (Str.ofString "/") ∧ Txt.rfind (wr host fs nm) (Str.ofString "/") < (wr host fs nm).length := by
    have hlen := H.len
    rw [H.sr, H.eq, S_len]; omega
  rw [e0]
  have := join_relf w (wr host fs nm) (S ([107, 47, 109] ++ 35 :: l)) H.len (by rw [S_len]; simp; omega) (by rw [H.bc]; omega) H.s1 H.s2 (by rw [H.bp]; omega)
    (by rw [lit_colon, find_none _ _ (by simp; exact h58)]; decide) (by rw [hr]; omega) (by rw [hp]; simp [S_len])
    (by rw [show (2 : Int) = ((2 : Nat) : Int) from rfl, slice_to, lit_sl2]; exact beq_S_ne (by simp)) (by rw [show (1 : Int) = ((1 : Nat) : Int) from rfl, slice_to, lit_slash]; exact beq_S_ne (by simp))
    host.cps.toList (lists fs) [107, 47, 109] (fun c t h => by cases h; decide) H.bp (35 :: l) hs
    (by
      rw [hp]
      exact ⟨by simp [S_len], H.len, hsl.1, hsl.2, 0, lists fs, nm.cps.toList,   .inl rfl, H.eq, H.sr, H.cleanF, H.cleanN, by rw [Nat.sub_zero, List.take_length]⟩)
  have e2 : wr host (fs ++ [Str.ofString "k"]) (Str.ofString "m") ++ S (35 :: l) = S (adr host.cps.toList (lists fs) [107, 47, 109] ++ 35 :: l) := by
    rw [← S_app]
    congr 1
    unfold wr adr lists
    rw [List.map_append, List.map_cons, List.map_nil, catF_snoc, hk, hmm]
    simp
  rw [e2]
  exact this
end
/-- the host that the fifth kind makes -/
theorem host5 {host nm : Str} {fs : List Str} {v : Int} (hh : HostOk host) (hg : ∀ f ∈ fs, GoodF f) (hn : fs.length ≤ 60) (hm : GoodN nm) (h0 : 0 ≤ v) (h1 : v < 10) :
    ∃ c : Nat, (48 ≤ c ∧ c ≤ 57) ∧ HostOk (Txt.slice host none (some (Txt.find host (Str.ofString ":"))) ++ Str.ofString "://h" ++ Str.ofString (toString v)) ∧
      0 ≤ Txt.find (Txt.slice host none (some (Txt.find host (Str.ofString ":"))) ++ Str.ofString "://h" ++ Str.ofString (toString v)) (Str.ofString ":") ∧
      Txt.slice (Txt.slice host none (some (Txt.find host (Str.ofString ":"))) ++ Str.ofString "://h" ++ Str.ofString (toString v)) (some (Txt.find (Txt.slice host none (some (Txt.find host (Str.ofString ":"))) ++ Str.ofString "://h" ++ Str.ofString (toString v)) (Str.ofString ":") + 1)) none = S [47, 47, 104, c] ∧
      Txt.slice (wr host fs nm) none (some (Txt.find (wr host fs nm) (Str.ofString ":") + 1)) ++ S [47, 47, 104, c] = Txt.slice host none (some (Txt.find host (Str.ofString ":"))) ++ Str.ofString "://h" ++ Str.ofString (toString v) := by
  obtain ⟨sc, nt, rfl, q1, q2, q3, q4, q5, q6⟩ := hh
  obtain ⟨sc', nt', w1, w2, w3, w4, w5, w6, H⟩ := here_facts (host := S (sc ++ 58 :: 47 :: 47 :: nt)) ⟨sc, nt, rfl, q1, q2, q3, q4, q5, q6⟩ hg hn hm
  have ehd : Str.ofString "://h" = S [58, 47, 47, 104] := by decide +kernel
  have hsc : sc' = sc := by
    rw [S_cps] at w1
    have a1 := find_at sc (47 :: 47 :: nt) 58 q1
    have a2 := find_at sc' (47 :: 47 :: nt') 58 w2
    rw [← w1, a1] at a2
    have a3 : sc.length = sc'.length := by omega
    exact (List.append_inj_left w1 a3).symm
  subst hsc
  have e1 : Txt.slice (S (sc' ++ 58 :: 47 :: 47 :: nt)) none (some (Txt.find (S (sc' ++ 58 :: 47 :: 47 :: nt)) (Str.ofString ":"))) = S sc' := by
    rw [lit_colon, find_at _ _ _ q1, slice_to, List.take_left]
  have e2 : S sc' ++ Str.ofString "://h" ++ Str.ofString (toString v) = S (sc' ++ 58 :: [47, 47, 104, 48 + v.toNat]) := by
    rw [ehd, dig v h0 h1, S_app, S_app]; simp
  rw [e1, e2]
  have e3 : Txt.find (S (sc' ++ 58 :: [47, 47, 104, 48 + v.toNat])) (Str.ofString ":") = (sc'.length : Int) := by rw [lit_colon, find_at _ _ _ q1]
  refine ⟨48 + v.toNat, by omega, ⟨sc', [104, 48 + v.toNat], rfl, q1, q2, by simp; omega, q4, by simp, q6⟩, by rw [e3]; omega, ?_, ?_⟩
  · rw [e3, show ((sc'.length : Int) + 1) = ((sc'.length + 1 : Nat) : Int) by omega, slice_from]
    congr 1
    rw [show sc' ++ 58 :: [47, 47, 104, 48 + v.toNat] = (sc' ++ [58]) ++ [47, 47, 104, 48 + v.toNat] by simp, show sc'.length + 1 = (sc' ++ [58]).length by simp, List.drop_left]
  · rw [H.toNet, S_app]; simp
theorem hostOk_c : HostOk (Str.ofString "https://c.d") := ⟨[104, 116, 116, 112, 115], [99, 46, 100], by decide +kernel, by decide, by decide, by decide, by decide, by decide, .inr rfl⟩
theorem hostOk_e : HostOk (Str.ofString "http://e") := ⟨[104, 116, 116, 112], [101], by decide +kernel, by decide, by decide, by decide, by decide, by decide, .inl rfl⟩
theorem HostOk.colon {h : Str} (k : HostOk h) : 0 ≤ Txt.find h (Str.ofString ":") := by
  obtain ⟨sc, nt, rfl, h1, _⟩ := k
  rw [lit_colon, find_at _ _ _ h1]; omega
end Mine
end
section
open PySem PySem.W PyProof.Rows PySem.Calls PySem.Spec
namespace Mine
abbrev h5 (host : Str) (v : Int) : Str := Txt.slice host none (some (Txt.find host (Str.ofString ":"))) ++ Str.ofString "://h" ++ Str.ofString (toString v)
structure NetF (w : World) (host nm e : Str) (fs ds : List Str) (v : Int) : Prop where
  qa : (Txt.slice host none (some (Txt.find host (Str.ofString ":")))).length ≤ 1000
  qb : (Str.ofString "://h").length ≤ 1000
  qc : (Txt.slice host none (some (Txt.find host (Str.ofString ":"))) ++ Str.ofString "://h").length ≤ 1000
  qd : (Str.ofString (toString v)).length ≤ 1000
  qe : 0 ≤ Txt.find (h5 host v) (Str.ofString ":")
  qf : (Txt.slice (h5 host v) (some (Txt.find (h5 host v) (Str.ofString ":") + 1)) none).length ≤ 100
  qg : (h5 host v).length ≤ 100
  qh : HostOk (h5 host v)
  qj : JoinGives w (wr host fs nm) (wr (Txt.slice (h5 host v) (some (Txt.find (h5 host v) (Str.ofString ":") + 1)) none) ds e) (wr (h5 host v) ds e)
theorem net_facts {w : World} {host nm e : Str} {fs ds : List Str} {v : Int} (hh : HostOk host) (hg : ∀ f ∈ fs, GoodF f) (hn : fs.length ≤ 60) (hm : GoodN nm) (hdg : ∀ d ∈ ds, GoodF d) (hdn : ds.length ≤ 2) (he : EndOk ds e) (h0 : 0 ≤ v) (h1 : v < 10) : NetF w host nm e fs ds v := by
  obtain ⟨c, hc, k1, k2, k3, k4⟩ := host5 hh hg hn hm h0 h1
  have hl := k1.len
  have hl2 := hl
  rw [Str.length_append, Str.length_append] at hl2
  have eb : (Str.ofString "://h").length ≤ 1000 := by decide +kernel
  refine ⟨by omega, eb, by rw [Str.length_append]; omega, by omega, k2, ?_, hl, k1, ?_⟩
  · show (Txt.slice (h5 host v) _ none).length ≤ 100
    rw [k3, S_len]; simp
  · show JoinGives w (wr host fs nm) (wr (Txt.slice (h5 host v) _ none) ds e) _
    rw [k3]
    have := jg_net (w := w) (c := c) hh hg hn hm hdg hdn he hc
    rwa [k4] at this
theorem net_of {w : World} {ns : List Int} {vs : List Value} (u9hi : IntsAre vs ns) (k : Int) {host nm e : Str} {fs ds : List Str} (hh : HostOk host) (hg : ∀ f ∈ fs, GoodF f) (hn : fs.length ≤ 60) (hm : GoodN nm) (hdg : ∀ d ∈ ds, GoodF d) (hdn : ds.length ≤ 2) (he : EndOk ds e) : NetF w host nm e fs ds ((drawV ns (7 + 2 * k)).fmod 3) :=
  net_facts hh hg hn hm hdg hdn he (fmod_b _ 3 (by decide)).1 (by have := (fmod_b (drawV ns (7 + 2 * k)) 3 (by decide)).2; omega)
theorem jg_abs0 {w : World} {here host e : Str} {ds : List Str} (hh : HostOk host) (hg : ∀ d ∈ ds, GoodF d) (hn : ds.length ≤ 60) (hm : GoodN e) : JoinGives w here (wr host ds e) (wr host ds e) :=
  jg_abs (f := Str.ofString "") hh hg hn hm (by decide +kernel) (app_empty _).symm
section
variable {prog : Program} {w : World} {A : Around} {E : Value → Shared → Prop} {s : Shared} {Q : Value → Shared → Prop} {t u : Tok}
theorem add_two {a b : Str} (ha : a.length ≤ 1000) (hb : b.length ≤ 1000) (h : ∀ (t' : Tok) (tk : Nat), Q (.str (a ++ b) t') { s with toks := tk }) : wpAny (model prog w) A (binaryOp .Add (.str a t) (.str b u)) Q E s := by
  refine add_str h ?_
  rw [PySem.sizeLine_eq]; omega
open PySem.Builtin PySem.Builtin.Str in
theorem call_index {x y : Str} (hc : 0 ≤ Txt.find x y) (h : Q (.int (Txt.find x y) s.toks) { s with toks := s.toks + 1 }) : wpAny (model prog w) A (call (.builtin "str.index") [.str x t, .str y u]) Q E s := by
  cases ho : occurrences x y 0 x.length 1 with
  | nil =>
    have e : Txt.find x y = -1 := by simp [Txt.find, ho]
    omega
  | cons i rest =>
    have e : Txt.find x y = (i : Int) := by simp [Txt.find, ho]
    refine SC.index ho ?_
    rw [e] at h
    exact h
end
end Mine
end
section
open PySem PySem.W PyProof.Rows PySem.Calls PySem.Spec
namespace Mine
theorem frag_eq (v : Int) (h0 : 0 ≤ v) (h1 : v < 3) : ∃ l : List Nat, l.length ≤ 3 ∧ 58 ∉ l ∧ 35 ∉ l ∧ Str.ofString "#" ++ Txt.slice (Str.ofString "xyz") none (some (1 + v)) = S (35 :: l) ∧ (Txt.slice (Str.ofString "xyz") none (some (1 + v))).length ≤ 1000 := by
  have ex : Str.ofString "xyz" = S [120, 121, 122] := by decide +kernel
  rw [ex, lit_hash, show (1 + v) = ((v.toNat + 1 : Nat) : Int) by omega, slice_to]
  refine ⟨[120, 121, 122].take (v.toNat + 1), by rw [List.length_take]; simp; omega, fun h => ?_, fun h => ?_, by rw [S_app]; rfl, by rw [S_len, List.length_take]; simp; omega⟩
  · have := List.mem_of_mem_take h; simp at this
  · have := List.mem_of_mem_take h; simp at this
theorem frag_of {ns : List Int} {vs : List Value} (u9hi : IntsAre vs ns) : ∃ l : List Nat, l.length ≤ 3 ∧ 58 ∉ l ∧ 35 ∉ l ∧ Str.ofString "#" ++ Txt.slice (Str.ofString "xyz") none (some (1 + (drawV ns 30).fmod 3)) = S (35 :: l) ∧ (Txt.slice (Str.ofString "xyz") none (some (1 + (drawV ns 30).fmod 3))).length ≤ 1000 :=
  frag_eq _ (fmod_b _ 3 (by decide)).1 (fmod_b _ 3 (by decide)).2
theorem wr_len {host nm : Str} {fs : List Str} (hh : host.length ≤ 100) (hf : ∀ f ∈ fs, f.length ≤ 4) (hn : fs.length ≤ 60) (hm : nm.length ≤ 100) : (wr host fs nm).length ≤ 900 := by
  have hcat := catF_len fs 4 hf
  have e1 : host.cps.toList.length = host.length := by simp [Str.length]
  have e2 : nm.cps.toList.length = nm.length := by simp [Str.length]
  unfold wr adr
  rw [S_len]
  simp only [List.length_append, List.length_cons]
  omega
structure DoneF (w : World) (host nm fr : Str) (fs : List Str) : Prop where
  qa : (wr host fs nm).length ≤ 1000
  qb : fr.length ≤ 1000
  qc : (Str.ofString "k/m").length ≤ 1000
  qd : (wr host (fs ++ [Str.ofString "k"]) (Str.ofString "m")).length ≤ 1000
  qe : (fs ++ [Str.ofString "k"]).length ≤ 60
  qf : ∀ f ∈ fs ++ [Str.ofString "k"], f.length ≤ 4
  qg : (Str.ofString "m").length ≤ 100
  q1 : JoinGives w (wr host fs nm) fr (wr host fs nm ++ fr)
  q2 : JoinGives w (wr host fs nm) (wr host fs nm ++ fr) (wr host fs nm ++ fr)
  q3 : JoinGives w (wr host fs nm) (Str.ofString "k/m" ++ fr) (wr host (fs ++ [Str.ofString "k"]) (Str.ofString "m") ++ fr)
  qs : (wr host fs nm ++ fr != wr host fs nm ++ fr) = false
  qt : (wr host (fs ++ [Str.ofString "k"]) (Str.ofString "m") ++ fr == wr host (fs ++ [Str.ofString "k"]) (Str.ofString "m") ++ fr) = true
theorem done_facts {w : World} {host nm fr : Str} {fs : List Str} {l : List Nat} (hh : HostOk host) (hg : ∀ f ∈ fs, GoodF f) (hn : fs.length ≤ 50) (hm : GoodN nm) (hl : l.length ≤ 3) (h58 : 58 ∉ l) (h35 : 35 ∉ l) (hf : fr = S (35 :: l)) : DoneF w host nm fr fs := by
  have hl4 := GoodF.lens hg
  have hlk : ∀ f ∈ fs ++ [Str.ofString "k"], f.length ≤ 4 := fun f h => by
    rcases List.mem_append.mp h with h | h
    · exact hl4 f h
    · rw [List.mem_singleton.mp h]; decide +kernel
  have hm1 : (Str.ofString "m").length ≤ 100 := by decide +kernel
  have hnk : (fs ++ [Str.ofString "k"]).length ≤ 60 := by rw [List.length_append, List.length_singleton]; omega
  have hfl : fr.length ≤ 4 := by rw [hf, S_len]; simp; omega
  have w1 := wr_len hh.len hl4 (by omega) hm.len
  have w2 := wr_len hh.len hlk hnk hm1
  exact ⟨by omega, by omega, by decide +kernel, by omega, hnk, hlk, hm1, jg_frag hh hg (by omega) hm (by omega) h58 h35 hf, jg_abs hh hg (by omega) hm (by omega) rfl, jg_km hh hg (by omega) hm (by omega) h58 h35 hf, by simp, by simp⟩
section
variable {prog : Program} {w : World} {A : Around} {E : Value → Shared → Prop} {s : Shared} {h₀ : Heap} {L : Addr} {m : Str → Option Value} {news : List (Addr × Obj)}
theorem add_one {l b : Addr} {vs : List Value} {fs : List Str} {x : Str} {t : Tok} {Q : Value → Shared → Prop} (F : Fr h₀ L s.heap m) (N : News h₀ L s.heap news)
    (hl : s.heap.IsList l vs.toArray) (hb : s.heap.IsList b [Value.str x t].toArray)
    (hc : CarriedAll vs (fs.map fun y => PyData.str y)) (hf : fs.length ≤ 60)
    (h : ∀ d h' us n, CarriedAll us ((fs ++ [x]).map fun y => PyData.str y) → Fr h₀ L h' m → News h₀ L h' ((d, listOf us.toArray n) :: news) → (∀ p ∈ news, @LT.lt Nat _ p.1 d) → Q (.ref d) { s with heap := h' }) :
    wpAny (model prog w) A (binaryOp .Add (.ref l) (.ref b)) Q E s := by
  have l1 := hc.length_eq
  rw [List.length_map] at l1
  refine add_arrays F N hl hb (fun h' F' N' => ?_) (by rw [PySem.sizeLine_eq]; simp; omega)
  refine h _ h' (vs ++ [Value.str x t]) 0 ?_ F' N' fun p hp => Heap.lt_size (N p hp).1
  rw [List.map_append]
  exact hc.appendLM (.cons (.str _ _) .nil)
end
end Mine
end
section
open PySem PySem.W PyProof.Rows PySem.Calls PySem.Spec
namespace Mine
section
variable {prog : Program} {w : World} {A : Around} {E : Value → Shared → Prop} {s : Shared}
theorem ne_cons {a b : Addr} {vs : List Value} {d : Str} {fs : List Str} {Q : Value → Shared → Prop} (ha : s.heap.IsList a vs.toArray) (hc : CarriedAll vs ((d :: fs).map fun y => PyData.str y)) (hb : s.heap.IsList b ([] : List Value).toArray) (hg : ∀ f ∈ d :: fs, GoodF f) (hu : A.units + 64 < cLine)
    (h : Q (.bool true) s) : wpAny (model prog w) A (compareOp .NotEq (.ref a) (.ref b)) Q E s := ne_nil ha hc hb hg hu (by simpa using h)
theorem ne_nil0 {a b : Addr} {vs : List Value} {Q : Value → Shared → Prop} (ha : s.heap.IsList a vs.toArray) (hc : CarriedAll vs (([] : List Str).map fun y => PyData.str y)) (hb : s.heap.IsList b ([] : List Value).toArray) (hg : ∀ f ∈ ([] : List Str), GoodF f) (hu : A.units + 64 < cLine)
    (h : Q (.bool false) s) : wpAny (model prog w) A (compareOp .NotEq (.ref a) (.ref b)) Q E s := ne_nil ha hc hb hg hu (by simpa using h)
end
theorem back_up {w : World} {host nm J : Str} {fs ds : List Str} {k : Int} (hh : HostOk host) (hg : ∀ f ∈ fs ++ ds, GoodF f) (hn : (fs ++ ds).length ≤ 60) (hm : GoodN nm) (hJ : J = S (ups k.toNat)) (h0 : 0 < k) (h1 : k ≤ 20) (hk : ds.length = k.toNat) :
    JoinGives w (wr host (fs ++ ds) nm) J (wr host fs (Str.ofString "")) := by
  have := jg_up (jg_empty (w := w) hh hg hn hm) hh hg hn hm hJ h0 h1
  rwa [List.length_append, ← hk, Nat.add_sub_cancel, List.take_left] at this
theorem back_cmp (host e : Str) (fs ds : List Str) (k : Int) (hk : (ds.length : Int) = k) : (wr host fs e != wr host (List.take (((fs ++ ds).length : Int) - k).toNat (fs ++ ds)) e) = false := by
  rw [List.length_append, show (((fs.length + ds.length : Nat) : Int) - k).toNat = fs.length by omega, List.take_left]; simp
theorem EndOk.one {ds : List Str} {d e : Str} (h : EndOk ds e) : EndOk [d] e := by
  rcases h with h | h | ⟨_, h⟩ | h
  · exact .inl h
  · exact .inr (.inl h)
  · exact .inr (.inr (.inl ⟨by simp, h⟩))
  · exact .inr (.inr (.inr h))
structure RowF (w : World) (host d e : Str) (fs : List Str) : Prop where
  qa : d.length ≤ 1000
  qb : (Str.ofString "/").length ≤ 1000
  qc : (d ++ Str.ofString "/").length ≤ 1000
  qd : e.length ≤ 1000
  q1 : JoinGives w (wr host fs (Str.ofString "")) (d ++ Str.ofString "/") (wr host (fs ++ [d]) (Str.ofString ""))
  q2 : JoinGives w (wr host fs (Str.ofString "")) (d ++ Str.ofString "/" ++ e) (wr host (fs ++ [d]) e)
theorem row_facts {w : World} {host d e : Str} {fs : List Str} (hh : HostOk host) (hg : ∀ f ∈ fs, GoodF f) (hn : fs.length ≤ 60) (hd : GoodF d) (he : EndOk [d] e) : RowF w host d e fs := by
  have l1 := hd.len
  have l2 := he.good.len
  have l3 := slash_len
  exact ⟨by omega, by omega, by rw [Str.length_append]; omega, by omega, jg_down (jg_empty (w := w) hh hg hn goodN_0) hh hg hn goodN_0 hd, jg_last (jg_empty (w := w) hh hg hn goodN_0) hh hg hn goodN_0 hd he⟩
end Mine
end
section
open PySem PySem.W PyProof.Rows PySem.Calls PySem.Spec
namespace Mine
/-! short roads for the ends: addresses apart, entries of a ledger -/
theorem ne9 {I : Addr} {e0 e1 e2 e3 e4 e5 e6 e7 e8 : Addr × Obj} (h0 : @Ne Nat e0.1 I) (h : @Ne Nat e1.1 I ∧ @Ne Nat e2.1 I ∧ @Ne Nat e3.1 I ∧ @Ne Nat e4.1 I ∧ @Ne Nat e5.1 I ∧ @Ne Nat e6.1 I ∧ @Ne Nat e7.1 I ∧ @Ne Nat e8.1 I) :
    ∀ p ∈ (e0 :: e1 :: e2 :: e3 :: e4 :: e5 :: e6 :: e7 :: [e8]), @Ne Nat p.1 I := by
  obtain ⟨h1, h2, h3, h4, h5, h6, h7, h8⟩ := h
  intro p hp
  simp only [List.mem_cons, List.not_mem_nil, or_false] at hp
  rcases hp with rfl | rfl | rfl | rfl | rfl | rfl | rfl | rfl | rfl <;> assumption
theorem ne10 {I : Addr} {d0 e0 e1 e2 e3 e4 e5 e6 e7 e8 : Addr × Obj} (hd : @Ne Nat d0.1 I) (h0 : @Ne Nat e0.1 I) (h : @Ne Nat e1.1 I ∧ @Ne Nat e2.1 I ∧ @Ne Nat e3.1 I ∧ @Ne Nat e4.1 I ∧ @Ne Nat e5.1 I ∧ @Ne Nat e6.1 I ∧ @Ne Nat e7.1 I ∧ @Ne Nat e8.1 I) :
    ∀ p ∈ (d0 :: e0 :: e1 :: e2 :: e3 :: e4 :: e5 :: e6 :: e7 :: [e8]), @Ne Nat p.1 I := by
  intro p hp
  rcases List.mem_cons.mp hp with rfl | hp
  · exact hd
  · exact ne9 h0 h p hp
theorem jb4 {k x : Int} (h : k < 0 + ((x.fmod 4 - 0).toNat : Int)) : k ≤ 100 := by
  have h1 := (fmod_b x 4 (by decide)).2
  generalize x.fmod 4 = y at *
  omega
end Mine
end
section
open PySem PySem.W PyProof.Rows PySem.Calls
namespace Mine
theorem byK {ns : List Int} {vs : List Value} (u9hi : IntsAre vs ns) (k : Int) {P : Prop} (h1 : (drawV ns (6 + 2 * k)).fmod 8 < 4 → P) (h2 : ¬ (drawV ns (6 + 2 * k)).fmod 8 < 4 → P) : P := by
  by_cases h : (drawV ns (6 + 2 * k)).fmod 8 < 4
  · exact h1 h
  · exact h2 h
local macro_rules | `(tactic| walk_at "call ref") => `(tactic| (k_here; k_dflt (refine wpAny_call ?_; refine' code_def ?k1 ?k2 ?k3 ?k4 ?k5 ?kA ?kF ?kK ?k6 ?k7 ?k8 ?k9 ?kB ?_ ?c2 ?c3 ?c4 ?c5; (case kA => exact rfl); (case kF => exact rfl); (case kK => exact rfl); (case k1 => k_asm); (case k2 => k_asm); (case k3 => k_asm); (case k4 => k_asm); (case k5 => k_asm); (case k6 => k_is); (case k7 => k_is); (case k8 => ktr_room); (case k9 => first | exact BindsTo.of_eq rfl | exact binds_K (by k_in) rfl (by k_is) rfl rfl rfl); (case c5 => decide); (case kB => exact locs rfl); (case c2 => exact rfl); (case c3 => exact rfl); (case c4 => exact rfl); k_whole; intro g' L' h' FG' F' N' B' X' T'; (try dsimp only); (try k_lift B'); (try k_fold))))
local macro_rules | `(tactic| walk_at "mine enter") => `(tactic| (refine' code_nest ?k1 ?k2 ?k3 ?k4 ?k5 ?kA ?kF ?kK ?k6 ?k7 ?k8 ?k9 ?kB ?_ ?c2 ?c3 ?c4 ?c5; (case kA => exact rfl); (case kF => exact rfl); (case kK => assumption); (case k1 => k_asm); (case k2 => k_asm); (case k3 => k_asm); (case k4 => k_asm); (case k5 => k_asm); (case k6 => k_mem); (case k7 => exact codeRec_news (by k_asm) (by k_mem) (by assumption) (by assumption)); (case k8 => ktr_room); (case k9 => exact BindsTo.of_eq rfl); (case c5 => decide); (case kB => exact locs rfl); (case c2 => exact rfl); (case c3 => exact rfl); (case c4 => exact rfl); k_whole; intro g' L' h' FG' F' N' B' X' T'; (try dsimp only); (try k_lift B'); (try k_fold)))
local macro_rules | `(tactic| walk_at "mine clear") => `(tactic| ((repeat ((rename Fr _ _ _ _ => zz9); clear zz9)); (repeat ((rename News _ _ _ _ => zz9); clear zz9)); (repeat ((rename Below _ _ _ _ => zz9); clear zz9)); (repeat ((rename Top _ _ _ _ _ _ => zz9); clear zz9)); (repeat ((rename Heap.IsList _ _ _ => zz9); clear zz9)); (repeat ((rename Frag.In _ _ => zz9); clear zz9))))
local macro_rules | `(tactic| size_fits) => `(tactic| ((with_reducible show PySem.Str.length _ + PySem.Str.length (Str.ofString "/") ≤ _); (have hml9 := mem_len (by with_reducible assumption) (by with_reducible assumption)); (rw [slash_len, PySem.sizeLine_eq]); omega))
local macro_rules | `(tactic| walk_at "call builtin:str.join") => `(tactic| ((with_reducible show wpAny _ _ (call (Value.builtin "str.join") [Value.str (Str.ofString "") _, Value.ref _]) _ _ _); (with_reducible rename CarriedAll _ (List.map _ (List.filter _ _)) => hc9); refine my_join (by with_reducible assumption) (by with_reducible assumption) (by with_reducible assumption) (by (simp only [filter_true', List.map_id'] at hc9); exact hc9) ?_; intro t9 k9 J9 hJ9 hJl9))
local macro_rules | `(tactic| walk_at "call ref") => `(tactic| (k_here; (with_reducible show wpAny _ _ (call (Value.ref _) [Value.int _ _]) _ _ _); (with_reducible rename DrawOk _ _ _ _ _ _ _ _ _ _ _ _ => hD9); k_dflt (refine' DrawOk.use hD9 ?k1 ?k2 ?k3 ?k4 ?k5 ?m1 ?m2 ?m3 ?hl ?hi ?hf ?hn ?kK ?p0 ?p1 ?kd ?ku ?_; (case k1 => k_asm); (case k2 => k_asm); (case k3 => k_asm); (case k4 => k_asm); (case k5 => k_asm); (case m1 => k_mem); (case m2 => k_mem); (case m3 => k_mem); (case hl => with_reducible assumption); (case hi => with_reducible assumption); (case hf => omega); (case hn => omega); (case kK => first | exact rfl | assumption); (case p0 => first | decide | with_reducible assumption | omega); (case p1 => first | decide | exact jb4 (by with_reducible assumption) | omega); (case kd => ktr_room); (case ku => ktr_units); k_whole); intro t9 h9 tk9 F9 N9; (try dsimp only); (try k_fold)))
local macro_rules | `(tactic| walk_at "call ref") => `(tactic| (k_here; (with_reducible show wpAny _ _ (call (Value.ref _) [Value.str _ _, Value.ref _, Value.str _ _]) _ _ _); (with_reducible rename WrittenOk _ _ _ _ _ _ _ _ => hW9); k_dflt (refine' WrittenOk.use2 hW9 ?k1 ?k2 ?k3 ?k4 ?k5 ?m1 ?m2 ?m3 ?kK ?hc ?hkk ?hn ?hb ?hh ?hm ?kd ?ku ?_; (case k1 => k_asm); (case k2 => k_asm); (case k3 => k_asm); (case k4 => k_asm); (case k5 => k_asm); (case m1 => k_mem); (case m2 => k_mem); (case m3 => k_mem); (case kK => first | exact rfl | assumption); (case hc => with_reducible assumption); (case hkk => first | omega | ((simp only [List.length_append, List.length_cons, List.length_nil]); omega)); (case hn => first | with_reducible assumption | omega); (case hb => with_reducible assumption); (case hh => first | with_reducible assumption | omega); (case hm => first | with_reducible assumption | omega | exact Nat.le_of_ble_eq_true rfl); (case kd => ktr_room); (case ku => ktr_units); k_whole); intro t9 h9 tk9 F9 N9; (try dsimp only); (try k_fold)))
local macro_rules | `(tactic| walk_at "call ref") => `(tactic| (k_here; (with_reducible show wpAny _ _ (call (Value.ref _) [Value.str _ _, Value.ref _, Value.str _ _]) _ _ _); (with_reducible rename WrittenOk _ _ _ _ _ _ _ _ => hW9); k_dflt (refine' WrittenOk.use hW9 ?k1 ?k2 ?k3 ?k4 ?k5 ?m1 ?m2 ?m3 ?kK ?hc ?hn ?hb ?hh ?hm ?kd ?ku ?_; (case k1 => k_asm); (case k2 => k_asm); (case k3 => k_asm); (case k4 => k_asm); (case k5 => k_asm); (case m1 => k_mem); (case m2 => k_mem); (case m3 => k_mem); (case kK => first | exact rfl | assumption); (case hc => with_reducible assumption); (case hn => with_reducible assumption); (case hb => with_reducible assumption); (case hh => first | with_reducible assumption | omega); (case hm => first | with_reducible assumption | omega); (case kd => ktr_room); (case ku => ktr_units); k_whole); intro t9 h9 tk9 F9 N9; (try dsimp only); (try k_fold)))
local macro_rules | `(tactic| walk_at "call type:str") => `(tactic| (first | refine str_mod4 ?_ | refine str_mod5 ?_ | refine str_mod3 ?_))
local macro_rules | `(tactic| walk_at "binaryOp Add str str") => `(tactic| (first | (refine add_f4 ?_; intro t9 k9) | (refine add_d5 ?_; intro t9 k9)))
local macro_rules | `(tactic| walk_at "newTuple") => `(tactic| (k_here; k_dflt (refine' newTuple_L ?k1 ?k2 ?_ ?kz; (case k1 => k_asm); (case k2 => k_asm); (case kz => size_fits); k_whole); intro d' h' F' N' l1; (try k_lt l1); (try k_sweep)))
local macro_rules | `(tactic| walk_at "binaryOp Pow int int") => `(tactic| (refine pow3_rule (by with_reducible assumption) (by with_reducible assumption) ?_))
local macro_rules | `(tactic| walk_at "binaryOp FloorDiv int int") => `(tactic| (refine div3_rule ?_))
local macro_rules | `(tactic| walk_at "CompSrc") => `(tactic| (k_here; (goal_has PySem.Operator.Pow); (try k_fmods); k_dflt (refine LCg.CompSrc.range (by rfl) (by k_asm) (by k_asm) (by with_reducible assumption) (small3 _) (rangeSize_nat _ _) (size3 _) ?_; intro g'; (refine' kct_d (by with_reducible assumption) (fun k' t' I' oI' C' oC' D' m' ys' h' tk' E' hlo' hhi' hC' hx' F' N' off' ne' => ?_) ?_); (all_goals (try (simp only [LCg.Off3, and_true] at off'))); (all_goals (try ((show KPfMark → _); intro hMark'))); kcf_last)))
local macro_rules | `(tactic| walk_at "eval ListComp") => `(tactic| ((with_reducible show wpAny _ _ (eval (PySem.Expr.ListComp (PySem.Expr.BinOp (PySem.Expr.Name _ _) _ (PySem.Expr.Constant _ _ _) _) _ _ _) _) _ _ _); (with_reducible apply ListComp_rowsP); (case hx => with_unfolding_all rfl); (case hs => intro _; with_unfolding_all rfl); (case hkind => with_unfolding_all rfl); (case hnames => decide); (case hcell => decide); (case hfree => decide)))
local macro_rules | `(tactic| walk_at "CompEnd") => `(tactic| k_dflt ((rename KPfMark => kpm9); (rename News _ _ _ _ => nE9); (refine LCg.CompEnd.intro (by with_reducible assumption) nE9 _ (fun _ hp => hp) ?zo ?zs ⟨rfl, _, rfl⟩; (case zo => (simp only [LCg.Off3, and_true]; first | done | with_reducible assumption)); (case zs => lcg_src))))
local macro_rules | `(tactic| walk_at "compareOp NotEq ref ref") => `(tactic| (k_here; k_dflt (refine ne_nil (by is_list) (by with_reducible assumption) (by is_list) (by with_reducible assumption) (by ktr_units) ?_)))
local macro_rules | `(tactic| size_fits) => `(tactic| ((with_reducible show PySem.Str.length _ + PySem.Str.length (Str.ofString "/") ≤ _); (have hml9 := mem_len2 (by with_reducible assumption) (by with_reducible assumption)); (rw [slash_len, PySem.sizeLine_eq]); omega))
local macro_rules | `(tactic| walk_at "call builtin:str.join") => `(tactic| ((with_reducible show wpAny _ _ (call (Value.builtin "str.join") [Value.str (Str.ofString "") _, Value.ref _]) _ _ _); (with_reducible rename CarriedAll _ (List.map _ (List.filter _ _)) => hc9); (simp only [filter_true', List.map_id'] at hc9); refine my_join (hc := hc9) (by with_reducible assumption) (by first | with_reducible assumption | omega) (by with_reducible assumption) ?_; intro t9 k9 J9 hJ9 hJl9))
local macro_rules | `(tactic| walk_at "binaryOp Mult str int") => `(tactic| (refine mult_ups (by omega) (by omega) ?_; intro t9 k9 J9 hJ9 hJl9))
local macro_rules | `(tactic| walk_at "binaryOp Add ref ref") => `(tactic| (k_here; k_dflt (refine' add_take ?zF ?zN ?zl ?zb ?zc ?zd ?zk ?zf ?zn ?_; (case zF => k_asm); (case zN => k_asm); (case zl => is_list); (case zb => is_list); (case zc => with_reducible assumption); (case zd => with_reducible assumption); (case zk => exact max0 _ _ (by omega)); (case zf => omega); (case zn => omega); k_whole); intro d9 h9 us9 un9 hus9 F9 N9 l9; (try k_lt l9)))
local macro_rules | `(tactic| walk_at "call ref") => `(tactic| (k_here; (with_reducible show wpAny _ _ (call (Value.ref _) [Value.str _ _, Value.str _ _]) _ _ _); k_dflt (refine' JoinGives.use ?j ?k1 ?k2 ?k3 ?k4 ?k5 ?kK ?kd ?ku ?_; (case j => with_reducible assumption); (case k1 => k_asm); (case k2 => k_asm); (case k3 => k_asm); (case k4 => k_asm); (case k5 => k_asm); (case kK => first | exact rfl | assumption); (case kd => ktr_room); (case ku => ktr_units); k_whole); intro t9 h9 tk9 F9 N9; (try dsimp only); (try k_fold)))
local macro_rules | `(tactic| walk_at "mine facts") => `(tactic| (refine ⟨by with_reducible assumption, by (dsimp only at *; omega), by with_reducible assumption, by with_reducible assumption, by with_reducible assumption, ?_, ⟨_, by with_reducible assumption⟩⟩; ((repeat' (refine And.intro ?_ ?_)) <;> (dsimp only; omega))))
local macro_rules | `(tactic| walk_at "mine in") => `(tactic| ((try dsimp only); first | (with_reducible exact fun _ hp => hp) | (with_reducible exact fun _ hp => List.mem_cons_of_mem _ hp) | (with_reducible exact fun _ hp => List.mem_cons_of_mem _ (List.mem_cons_of_mem _ hp)) | (with_reducible exact fun _ hp => List.mem_cons_of_mem _ (List.mem_cons_of_mem _ (List.mem_cons_of_mem _ hp))) | kst_in))
local macro_rules | `(tactic| walk_at "mine clean") => `(tactic| ((repeat ((rename Fr _ _ _ _ => zz9); clear zz9)); (repeat ((rename News _ _ _ _ => zz9); clear zz9)); (repeat ((with_reducible rename IsRange _ _ _ _ _ _ _ => zz9); clear zz9)); (repeat ((with_reducible rename (∀ (b : Addr) (o : Obj), Heap.get? _ b = some o → Heap.get? _ b = some o) => zz9); clear zz9))))
local macro_rules | `(tactic| walk_at "mine turn") => `(tactic| ((rename Fr _ _ _ _ => lFt9); (rename News _ _ _ _ => lNt9); refine' TurnPost.fin ⟨_, _, _, _, _, _, _, _, _, _⟩ lFt9 lNt9 ?tl ?ti ?tn ?tf ?tk ?tr; (case tk => kst_all); (case tl => walk_at "mine in"); (case ti => k_mem); (case tn => exact ne9 (by with_reducible assumption) (by with_reducible assumption)); (case tr => kst_same); (case tf => walk_at "mine facts")))
local macro_rules | `(tactic| walk_at "mine same") => `(tactic| (intro z hz9; first | rfl | ((simp only [List.forall_mem_cons, List.not_mem_nil, false_implies, implies_true, and_true, ne_eq] at hz9); (simp [hz9]; done))))
local macro_rules | `(tactic| walk_at "mine steps") => `(tactic| repeat' ((fail_if_success (with_reducible show CutEnd _ _ _ _ _ _ _ _ _)); first | (k_unfold; (try dsimp only)) | walk1 | (dsimp only; walk1) | fail "no step"))
local macro_rules | `(tactic| walk_at "binaryOp Add str str") => `(tactic| (refine add_two (by with_reducible assumption) (by with_reducible assumption) ?_; intro t9 k9))
local macro_rules | `(tactic| walk_at "compareOp NotEq ref ref") => `(tactic| (k_here; k_dflt (refine ne_cons (by is_list) (by with_reducible assumption) (by is_list) (by with_reducible assumption) (by ktr_units) ?_)))
local macro_rules | `(tactic| walk_at "compareOp NotEq ref ref") => `(tactic| (k_here; k_dflt (refine ne_nil0 (by is_list) (by with_reducible assumption) (by is_list) (by with_reducible assumption) (by ktr_units) ?_)))
local macro_rules | `(tactic| walk_at "call builtin:str.index") => `(tactic| (refine call_index (by with_reducible assumption) ?_))
local macro_rules | `(tactic| walk_at "binaryOp Add ref ref") => `(tactic| (k_here; (with_reducible rename List.length (_ ++ [Str.ofString "k"]) ≤ 60 => hqe9); k_dflt (refine' add_one ?zF ?zN ?zl ?zb ?zc ?zf ?_; (case zF => k_asm); (case zN => k_asm); (case zl => is_list); (case zb => is_list); (case zc => with_reducible assumption); (case zf => omega); k_whole); intro d9 h9 us9 un9 hus9 F9 N9 l9; (try k_lt l9)))
theorem envC_loc (n : Str) (sc : Scope) (L a : Addr) (v : Value) : (envOfC n sc L a v).locals = L := rfl
set_option maxRecDepth 100000 in
set_option maxHeartbeats 8000000 in
theorem t1 : PySem.Challenge.rw_er0021_01.Holds := Mine.hd (by
  w_strict (k_go0; (all_goals try k_fold)
            repeat' ((fail_if_success (with_reducible show wpAny _ _ (exec (Stmt.Assign _ _ _) _) _ _ _)); first | (k_unfold; (try dsimp only)) | walk1 | (dsimp only; walk1) | fail "no step")
            (refine draw_intro (by assumption) (by assumption) (by assumption) (by assumption) (by assumption) ?D ?W ?K)
            case D =>
              as_aux_lemma =>
                walk_at "mine clear"
                unfold DrawOk
                intros; rename_i hret
                dsimp only
                refine wpAny_call ?_
                k_dflt (walk_at "mine enter")
                repeat' (first | (k_unfold; (try dsimp only)) | walk1 | (dsimp only; walk1) | fail "no step")
                all_goals (refine cb_retI hret ?_ (by with_reducible assumption) (by with_reducible assumption))
                all_goals (unfold drawV)
                · rw [if_neg (by intro e; subst e; simp at *)]
                · rw [if_pos (by apply List.eq_nil_of_length_eq_zero; omega)]
            case W =>
              as_aux_lemma =>
                walk_at "mine clear"
                unfold WrittenOk
                intros; rename_i hret
                dsimp only
                refine wpAny_call ?_
                k_dflt (walk_at "mine enter")
                repeat' (first | (k_unfold; (try dsimp only)) | walk1 | (dsimp only; walk1) | fail "no step")
                (refine cb_retS hret ?_ (by with_reducible assumption) (by first | with_reducible assumption | (refine cb_drop (by with_reducible assumption) (by kcj_all))))
                exact wr_eq (by with_reducible assumption)
            intro hDraw hWr
            refine cut1 (σ := Str × Tok × Addr × List Value × Nat × List Str × Str × Tok) (fun c => (c.2.2.1, listOf c.2.2.2.1.toArray c.2.2.2.2.1)) (fun c => [(Str.ofString "host", .str c.1 c.2.1), (Str.ofString "folders", .ref c.2.2.1), (Str.ofString "name", .str c.2.2.2.2.2.2.1 c.2.2.2.2.2.2.2)]) (fun c => CarriedAll c.2.2.2.1 (c.2.2.2.2.2.1.map fun y => PyData.str y) ∧ c.2.2.2.2.2.1.length ≤ 3 ∧ (∀ f ∈ c.2.2.2.2.2.1, GoodF f) ∧ GoodN c.2.2.2.2.2.2.1 ∧ HostOk c.1) (by assumption) (by assumption) ?walk ?cont
            case walk =>
              walk_at "mine steps"
              all_goals (
                (with_reducible rename CarriedAll _ (List.map _ (rangeKs _ _)) => hc9)
                obtain ⟨fs9, q1, q2, q3⟩ := folders_f hc9
                refine' CutEnd.intro ⟨_, _, _, _, _, fs9, _, _⟩ (by with_reducible assumption) (by with_reducible assumption) ?chl ?chf ?chk ?chr
                (case chk => kst_all)
                (case chl => walk_at "mine in")
                (case chr => walk_at "mine same")
                (case chf =>
                  refine ⟨?_, q1, fm3 q2, q3, ?_, hostOk_0⟩
                  · k_all
                  · first | exact goodN_0 | exact goodN_1 | exact goodN_2))
            case cont =>
              intro ⟨host9, th9, l9, vs9, n9, fs9, nm9, tn9⟩ h9 tk9 hne9 ⟨hc9, hn9, hg9, hm9, hh9⟩ F9 N9
              dsimp only at hne9 hc9 hn9 hg9 hm9 hh9 F9 N9
              simp only [List.forall_mem_cons, List.not_mem_nil, false_implies, implies_true, and_true] at hne9
              dsimp only [kstB] at F9
              have hl9 := GoodF.lens hg9
              have hhl9 := hh9.len
              have hml9 := hm9.len
              have hn60 : fs9.length ≤ 60 := by omega
              repeat' ((fail_if_success (with_reducible show wpAny _ _ (exec (Stmt.For _ _ _ _ _) _) _ _ _)); first | (k_unfold; (try dsimp only)) | walk1 | (dsimp only; walk1) | fail "no step")
              (rename Fr _ _ _ _ => lF'); (with_unfolding_all refine' For_my lF' ?fx ?fp ?_ ?fs ?fE); (case fx => rfl); (case fp => rfl); (case fs => (intro _; rfl)); (case fE => first | passes_own | with_unfolding_all passes_own)
              repeat' ((fail_if_success (with_reducible show wpAny _ _ (pyIter _) _ _ _)); first | (k_unfold; (try dsimp only)) | walk1 | (dsimp only; walk1) | fail "no step")
              (rename Fr _ _ _ _ => lF2)
              (rename News _ _ _ _ => lN2)
              refine' for_turns (TS.mk host9 th9 l9 vs9 n9 fs9 nm9 tn9 _ _) ?hh ?hr (fm8 _).1 (fm8 _).2 lF2 lN2 ?hfa ?hk ?turn ?done
              (case hh => rfl)
              (case hr => with_reducible assumption)
              (case hk => kst_all)
              (case hfa => exact ⟨hc9, hn9, hg9, hm9, hh9, hne9, ⟨_, by assumption⟩⟩)
              case turn =>
                clear lF2 lN2 hc9 hn9 hg9 hm9 hh9 hne9 hl9 hhl9 hml9 hn60
                (repeat ((rename Fr _ _ _ _ => zz9); clear zz9)); (repeat ((rename News _ _ _ _ => zz9); clear zz9))
                intro i9 k9 ⟨host9, th9, l9, vs9, n9, fs9, nm9, tn9, ta9, om9⟩ t9 u9 h9 tk9 I9 oI9 hi9 hk0 hk8 hi8 hI9 hL9 ⟨hc9, hn9, hg9, hm9, hh9, hne9, ⟨v9, hcell9⟩⟩ F9 N9
                dsimp only [tsLed, tsPs, kstB] at hc9 hn9 hg9 hm9 hh9 hne9 hcell9 F9 N9 hI9
                simp only [List.forall_mem_cons, List.not_mem_nil, false_implies, implies_true, and_true] at hI9
                have hIt9 := hI9.2
                have hl9 := GoodF.lens hg9
                have hhl9 := hh9.len
                have hml9 := hm9.len
                have hn60 : fs9.length ≤ 60 := by omega
                repeat' ((fail_if_success (with_reducible show wpAny _ _ (exec (Stmt.Assign _ (PySem.Expr.ListComp _ _ _ _) _) _) _ _ _)); first | (k_unfold; (try dsimp only)) | walk1 | (dsimp only; walk1) | fail "no step")
                (rename Fr _ _ _ _ => lF3); (rename News _ _ _ _ => lN3)
                have lN4 := news_tail lN3
                clear lN3
                refine cut1 (σ := Addr × List Value × Nat × List Str) (fun c => (c.1, listOf c.2.1.toArray c.2.2.1)) (fun c => [(Str.ofString "down", .ref c.1)]) (fun c => CarriedAll c.2.1 (c.2.2.2.map fun y => PyData.str y) ∧ c.2.2.2.length ≤ 2 ∧ ∀ f ∈ c.2.2.2, GoodF f) lF3 lN4 ?walk3 ?cont3
                case walk3 =>
                  walk_at "mine steps"
                  (with_reducible rename CarriedAll _ (List.map _ (rangeKs _ _)) => hc3)
                  obtain ⟨ds9, q1, q2, q3⟩ := folders_d hc3
                  refine' CutEnd.intro ⟨_, _, _, ds9⟩ (by with_reducible assumption) (by with_reducible assumption) ?chl ?chf ?chk ?chr
                  (case chk => kst_all)
                  (case chl => walk_at "mine in")
                  (case chr => walk_at "mine same")
                  (case chf =>
                    refine ⟨?_, q1, fm2 q2, q3⟩
                    k_all)
                case cont3 =>
                  walk_at "mine clean"
                  intro ⟨dl9, dvs9, dn9, ds9⟩ h9 tk9 hdne9 ⟨hdc9, hdn9, hdg9⟩ F9 N9
                  dsimp only [kstB] at hdne9 hdc9 hdn9 hdg9 F9 N9
                  (try simp only [List.forall_mem_cons, List.not_mem_nil, false_implies, implies_true, and_true] at hdne9)
                  dsimp only
                  repeat' ((fail_if_success (with_reducible show wpAny _ _ (exec (Stmt.Assign _ _ _) _) _ _ _)); first | (k_unfold; (try dsimp only)) | walk1 | (dsimp only; walk1) | fail "no step")
                  refine cut0 (σ := Str × Tok) (fun c => [(Str.ofString "end", .str c.1 c.2)]) (fun c => EndOk ds9 c.1) F9 N9 ?walk4 ?cont4
                  case walk4 =>
                    walk_at "mine steps"
                    all_goals (
                      refine' CutEnd.intro ⟨_, _⟩ (by with_reducible assumption) (by with_reducible assumption) ?chl ?chf ?chk ?chr
                      (case chk => kst_all)
                      (case chl => walk_at "mine in")
                      (case chr => walk_at "mine same")
                      (case chf => first | exact .inl rfl | exact .inr (.inl rfl) | exact .inr (.inr (.inr rfl)) | exact .inr (.inr (.inl ⟨by (first | assumption | (simp at *; assumption)), rfl⟩))))
                  case cont4 =>
                    walk_at "mine clean"
                    intro ⟨en9, te9⟩ h9 tk9 hen9 F9 N9
                    dsimp only [kstB] at hen9 F9 N9
                    dsimp only
                    have hmen9 := hen9.good.len
                    (with_reducible rename IntsAre _ _ => hIA9)
                    refine byK hIA9 k9 (fun hk4 => ?kA) (fun hk4 => ?kB)
                    case kA =>
                      repeat' ((fail_if_success (with_reducible show wpAny _ _ (exec (Stmt.Assign _ (PySem.Expr.BinOp _ Operator.Mod _ _) _) _) _ _ _)); first | (k_unfold; (try dsimp only)) | walk1 | (dsimp only; walk1) | fail "no step")
                      (rename Fr _ _ _ _ => lF3); (rename News _ _ _ _ => lN3)
                      refine cut0 (σ := Int × Tok) (fun c => [(Str.ofString "ups", .int c.1 c.2)]) (fun c => 0 ≤ c.1 ∧ c.1 ≤ 3) lF3 lN3 ?walkA1 ?contA1
                      case walkA1 =>
                        walk_at "mine steps"
                        refine' CutEnd.intro ⟨_, _⟩ (by with_reducible assumption) (by with_reducible assumption) ?chl ?chf ?chk ?chr
                        (case chk => kst_all)
                        (case chl => walk_at "mine in")
                        (case chr => walk_at "mine same")
                        (case chf => exact ⟨(fmod_b _ 4 (by decide)).1, Int.le_of_lt_add_one (fmod_b _ 4 (by decide)).2⟩)
                      case contA1 =>
                        walk_at "mine clean"
                        intro ⟨up9, tu9⟩ h9 tk9 hup9 F9 N9
                        dsimp only [kstB] at hup9 F9 N9
                        obtain ⟨hu0, hu3⟩ := hup9
                        dsimp only
                        have hdl9 := GoodF.lens hdg9
                        repeat' ((fail_if_success (with_reducible show wpAny _ _ (exec (Stmt.Assign _ (PySem.Expr.BinOp _ Operator.Add _ _) _) _) _ _ _)); first | (k_unfold; (try dsimp only)) | walk1 | (dsimp only; walk1) | fail "no step")
                        (rename Fr _ _ _ _ => lF3); (rename News _ _ _ _ => lN3)
                        refine cut0 (σ := Str × Tok) (fun c => [(Str.ofString "reference", .str c.1 c.2)]) (fun c => c.1 = S (ups up9.toNat ++ (catF (ds9.map (·.cps.toList)) ++ en9.cps.toList))) lF3 lN3 ?walkA2 ?contA2
                        case walkA2 =>
                          walk_at "mine steps"
                          refine' CutEnd.intro ⟨_, _⟩ (by with_reducible assumption) (by with_reducible assumption) ?chl ?chf ?chk ?chr
                          (case chk => kst_all)
                          (case chl => walk_at "mine in")
                          (case chr => walk_at "mine same")
                          (case chf => exact ref_eq (by with_reducible assumption) (by with_reducible assumption))
                        case contA2 =>
                          walk_at "mine clean"
                          intro ⟨rf9, tr9⟩ h9 tk9 hrf9 F9 N9
                          dsimp only [kstB] at hrf9 F9 N9
                          have hrl9 := ref_len (by omega) hdn9 hdl9 hen9.good.2 hrf9
                          dsimp only
                          repeat' ((fail_if_success (with_reducible show wpAny _ _ (exec (Stmt.Assign _ _ _) _) _ _ _)); first | (k_unfold; (try dsimp only)) | walk1 | (dsimp only; walk1) | fail "no step")
                          (rename Fr _ _ _ _ => lF3); (rename News _ _ _ _ => lN3)
                          refine cut0 (σ := Str × Tok) (fun c => [(Str.ofString "reference", .str c.1 c.2)]) (fun c => RefOk up9.toNat ds9 en9 c.1) lF3 lN3 ?walkA3 ?contA3
                          case walkA3 =>
                            walk_at "mine steps"
                            all_goals (
                              refine' CutEnd.intro ⟨_, _⟩ (by with_reducible assumption) (by with_reducible assumption) ?chl ?chf ?chk ?chr
                              (case chk => kst_all)
                              (case chl => walk_at "mine in")
                              (case chr => walk_at "mine same")
                              (case chf => first | exact .inl hrf9 | exact ref_cut hdg9 hen9 hrf9 (by with_reducible assumption)))
                          case contA3 =>
                            walk_at "mine clean"
                            clear hrf9 hrl9
                            intro ⟨rf9, tr9⟩ h9 tk9 hrf9 F9 N9
                            dsimp only [kstB] at hrf9 F9 N9
                            dsimp only
                            repeat' ((fail_if_success (with_reducible show wpAny _ _ (exec (Stmt.If _ _ _ _) _) _ _ _)); first | (k_unfold; (try dsimp only)) | walk1 | (dsimp only; walk1) | fail "no step")
                            (rename Fr _ _ _ _ => lF3); (rename News _ _ _ _ => lN3)
                            refine cut1 (σ := Addr × List Value × Nat × List Str × Str × Tok) (fun c => (c.1, listOf c.2.1.toArray c.2.2.1)) (fun c => [(Str.ofString "folders", .ref c.1), (Str.ofString "name", .str c.2.2.2.2.1 c.2.2.2.2.2)]) (fun c => CarriedAll c.2.1 (c.2.2.2.1.map fun y => PyData.str y) ∧ ((rf9 = Str.ofString "" ∧ c.2.2.2.1 = fs9 ∧ c.2.2.2.2.1 = nm9) ∨ (rf9 ≠ Str.ofString "" ∧ c.2.2.2.1 = fs9.take (fs9.length - up9.toNat) ++ ds9 ∧ c.2.2.2.2.1 = en9))) lF3 (news_no3 lN3) ?walkA4 ?contA4
                            case walkA4 =>
                              walk_at "mine steps"
                              · (with_reducible rename CarriedAll _ (List.map _ (List.take _ _ ++ _)) => hus9)
                                rw [max0_nat _ _ hu0] at hus9
                                refine' CutEnd.intro ⟨_, _, _, fs9.take (fs9.length - up9.toNat) ++ ds9, _, _⟩ (by with_reducible assumption) (by with_reducible assumption) ?chl ?chf ?chk ?chr
                                (case chk => kst_all)
                                (case chl => walk_at "mine in")
                                (case chr => walk_at "mine same")
                                (case chf =>
                                  refine ⟨?_, hus9, .inr ⟨bne_t (by with_reducible assumption), rfl, rfl⟩⟩
                                  k_all)
                              · refine' CutEnd.intro ⟨l9, vs9, n9, fs9, nm9, tn9⟩ (by with_reducible assumption) (by with_reducible assumption) ?chl ⟨?cne, hc9, .inl ⟨bne_f (by with_reducible assumption), rfl, rfl⟩⟩ ?chk ?chr
                                (case chk => kst_all)
                                (case chl => walk_at "mine in")
                                (case chr => walk_at "mine same")
                                (case cne => exact ne10 (Ne.symm hdne9.2.1) (Ne.symm hI9.1) hne9)
                            case contA4 =>
                              walk_at "mine clean"
                              as_aux_lemma =>
                                w_top off
                                (rename World => w9)
                                intro ⟨fl9, fvs9, fn9, ffs9, fnm9, ftn9⟩ h9 tk9 hfne9 ⟨hfc9, hff9⟩ F9 N9
                                dsimp only [kstB] at hfne9 hfc9 hff9 F9 N9
                                simp only [List.forall_mem_cons, List.not_mem_nil, false_implies, implies_true, and_true] at hfne9
                                dsimp only
                                obtain ⟨hJG9, hfg9, hfl9, hfm9⟩ := stepA (w := w9) hh9 hg9 hn60 hm9 (by omega) hdg9 hdn9 hen9 hrf9 hff9
                                have hfll9 := GoodF.lens hfg9
                                have hfn60 : ffs9.length ≤ 60 := by omega
                                have hfml9 := hfm9.len
                                have hIf9 := Ne.symm hfne9.2.1
                                have hself9 := self_ne (wr host9 ffs9 fnm9)
                                repeat' ((fail_if_success (with_reducible show wpAny _ _ (exec (Stmt.If (PySem.Expr.BoolOp _ _ _) _ _ _) _) _ _ _)); first | (k_unfold; (try dsimp only)) | walk1 | (dsimp only; walk1) | fail "no step")
                                (clear hdl9)
                                rcases id hff9 with ⟨hr0, _, _⟩ | ⟨hrn, hfe, hfn⟩
                                · have hbf9 : (rf9 != Str.ofString "") = false := by rw [hr0]; decide +kernel
                                  repeat' ((fail_if_success (with_reducible show TurnPost _ _ _ _ _ _ _ _ _ _ _ _ _ _ _)); (fail_if_success (with_reducible show wpAny _ _ (call (Value.ref 29) _) _ _ _)); first | (k_unfold; (try dsimp only)) | walk1 | (dsimp only; walk1) | fail "no step")
                                  walk_at "mine turn"
                                have hbt9 : (rf9 != Str.ofString "") = true := by simpa using hrn
                                by_cases hu9 : up9 = 0
                                · subst hu9
                                  have hfe' : ffs9 = fs9 ++ ds9 := by rw [hfe]; simp
                                  subst hfe'
                                  have hl9 := GoodF.lens hg9
                                  have hel : (Str.ofString "").length ≤ 100 := by decide +kernel
                                  rcases upto2 hdn9 with rfl | ⟨d0, rfl⟩ | ⟨d0, d1, rfl⟩
                                  · repeat' ((fail_if_success (with_reducible show TurnPost _ _ _ _ _ _ _ _ _ _ _ _ _ _ _)); (fail_if_success (with_reducible show wpAny _ _ (call (Value.ref 29) _) _ _ _)); first | (k_unfold; (try dsimp only)) | walk1 | (dsimp only; walk1) | fail "no step")
                                    walk_at "mine turn"
                                  · subst hfn
                                    have hsg9 : ∀ f ∈ fs9, GoodF f := hg9
                                    have hgd0 : GoodF d0 := hdg9 d0 (by simp)
                                    have hfs50 : fs9.length ≤ 60 := by omega
                                    obtain ⟨qa9, qb9, qc9, qd9, q19, q29⟩ := row_facts (w := w9) hh9 hsg9 hfs50 hgd0 hen9
                                    have hcmp9 := back_cmp host9 (Str.ofString "") fs9 [d0] 1 rfl
                                    have hlen9 : (fs9 ++ [d0]).length = fs9.length + 1 := by simp
                                    obtain ⟨td0, rfl⟩ := carried1 hdc9
                                    repeat' ((fail_if_success (with_reducible show TurnPost _ _ _ _ _ _ _ _ _ _ _ _ _ _ _)); (fail_if_success (with_reducible show wpAny _ _ (call (Value.ref 29) _) _ _ _)); first | (k_unfold; (try dsimp only)) | walk1 | (dsimp only; walk1) | fail "no step")
                                    (with_reducible rename _ = S (ups _) => hJu9)
                                    have hjg1 := back_up (w := w9) (k := 1) hh9 hfg9 hfn60 hfm9 hJu9 (by decide) (by decide) rfl
                                    repeat' ((fail_if_success (with_reducible show TurnPost _ _ _ _ _ _ _ _ _ _ _ _ _ _ _)); (fail_if_success (with_reducible show wpAny _ _ (exec (Stmt.For _ _ _ _ _) _) _ _ _)); first | (k_unfold; (try dsimp only)) | walk1 | (dsimp only; walk1) | fail "no step")
                                    (rename Fr _ _ _ _ => lF'); (with_unfolding_all refine' For_my lF' ?fx ?fp ?_ ?fs ?fE); (case fx => rfl); (case fp => rfl); (case fs => (intro _; rfl)); (case fE => first | passes_own | with_unfolding_all passes_own)
                                    repeat' ((fail_if_success (with_reducible show TurnPost _ _ _ _ _ _ _ _ _ _ _ _ _ _ _)); (fail_if_success (with_reducible show wpAny _ _ (pyIter _) _ _ _)); first | (k_unfold; (try dsimp only)) | walk1 | (dsimp only; walk1) | fail "no step")
                                    k_listUnr
                                    repeat' ((fail_if_success (with_reducible show TurnPost _ _ _ _ _ _ _ _ _ _ _ _ _ _ _)); first | (k_unfold; (try dsimp only)) | walk1 | (dsimp only; walk1) | fail "no step")
                                    walk_at "mine turn"
                                  · subst hfn
                                    have hsg9 : ∀ f ∈ fs9, GoodF f := hg9
                                    have hgd0 : GoodF d0 := hdg9 d0 (by simp)
                                    have hfs50 : fs9.length ≤ 60 := by omega
                                    have hgd1 : GoodF d1 := hdg9 d1 (by simp)
                                    have hsg19 : ∀ f ∈ fs9 ++ [d0], GoodF f := fun f hf => hfg9 f (by rcases List.mem_append.mp hf with h | h <;> simp at h ⊢ <;> simp [h])
                                    have hfs51 : (fs9 ++ [d0]).length ≤ 60 := by simp; simp at hfn60; omega
                                    obtain ⟨qa9, qb9, qc9, qd9, q19, _⟩ := row_facts (w := w9) hh9 hsg9 hfs50 hgd0 hen9.one
                                    obtain ⟨ra9, _, rc9, _, _, r29⟩ := row_facts (w := w9) hh9 hsg19 hfs51 hgd1 hen9.one
                                    rw [List.append_assoc, List.singleton_append] at r29
                                    have hcmp9 := back_cmp host9 (Str.ofString "") fs9 [d0, d1] 2 rfl
                                    have hlen9 : (fs9 ++ [d0, d1]).length = fs9.length + 2 := by simp
                                    obtain ⟨td0, td1, rfl⟩ := carried2 hdc9
                                    repeat' ((fail_if_success (with_reducible show TurnPost _ _ _ _ _ _ _ _ _ _ _ _ _ _ _)); (fail_if_success (with_reducible show wpAny _ _ (call (Value.ref 29) _) _ _ _)); first | (k_unfold; (try dsimp only)) | walk1 | (dsimp only; walk1) | fail "no step")
                                    (with_reducible rename _ = S (ups _) => hJu9)
                                    have hjg1 := back_up (w := w9) (k := 2) hh9 hfg9 hfn60 hfm9 hJu9 (by decide) (by decide) rfl
                                    repeat' ((fail_if_success (with_reducible show TurnPost _ _ _ _ _ _ _ _ _ _ _ _ _ _ _)); (fail_if_success (with_reducible show wpAny _ _ (exec (Stmt.For _ _ _ _ _) _) _ _ _)); first | (k_unfold; (try dsimp only)) | walk1 | (dsimp only; walk1) | fail "no step")
                                    (rename Fr _ _ _ _ => lF'); (with_unfolding_all refine' For_my lF' ?fx ?fp ?_ ?fs ?fE); (case fx => rfl); (case fp => rfl); (case fs => (intro _; rfl)); (case fE => first | passes_own | with_unfolding_all passes_own)
                                    repeat' ((fail_if_success (with_reducible show TurnPost _ _ _ _ _ _ _ _ _ _ _ _ _ _ _)); (fail_if_success (with_reducible show wpAny _ _ (pyIter _) _ _ _)); first | (k_unfold; (try dsimp only)) | walk1 | (dsimp only; walk1) | fail "no step")
                                    k_listUnr
                                    repeat' ((fail_if_success (with_reducible show TurnPost _ _ _ _ _ _ _ _ _ _ _ _ _ _ _)); first | (k_unfold; (try dsimp only)) | walk1 | (dsimp only; walk1) | fail "no step")
                                    walk_at "mine turn"
                                · repeat' ((fail_if_success (with_reducible show TurnPost _ _ _ _ _ _ _ _ _ _ _ _ _ _ _)); (fail_if_success (with_reducible show wpAny _ _ (call (Value.ref 29) _) _ _ _)); first | (k_unfold; (try dsimp only)) | walk1 | (dsimp only; walk1) | fail "no step")
                                  all_goals first | (exfalso; omega) | walk_at "mine turn"
                    case kB =>
                      as_aux_lemma =>
                        w_top off
                        (rename World => w9)
                        have hdl9 := GoodF.lens hdg9
                        have hel : (Str.ofString "").length ≤ 100 := by decide +kernel
                        have hd60 : ds9.length ≤ 60 := by omega
                        have hcol9 := hh9.colon
                        obtain ⟨na9, nb9, nc9, nd9, ne9, nf9, ng9, nh9, nj9⟩ := net_of (w := w9) hIA9 k9 hh9 hg9 hn60 hm9 hdg9 hdn9 hen9
                        have hlc9 := hostOk_c.len
                        have hle9 := hostOk_e.len
                        repeat' ((fail_if_success (with_reducible show wpAny _ _ (exec (Stmt.If _ _ _ _) _) _ _ _)); first | (k_unfold; (try dsimp only)) | walk1 | (dsimp only; walk1) | fail "no step")
                        (rename Fr _ _ _ _ => lF3); (rename News _ _ _ _ => lN3)
                        refine cut1 (σ := (Str × Tok) × (Str × Tok) × (Addr × List Value × Nat × List Str) × (Str × Tok)) (fun c => (c.2.2.1.1, listOf c.2.2.1.2.1.toArray c.2.2.1.2.2.1)) (fun c => [(Str.ofString "reference", .str c.1.1 c.1.2), (Str.ofString "host", .str c.2.1.1 c.2.1.2), (Str.ofString "folders", .ref c.2.2.1.1), (Str.ofString "name", .str c.2.2.2.1 c.2.2.2.2)]) (fun c => CarriedAll c.2.2.1.2.1 (c.2.2.1.2.2.2.map fun y => PyData.str y) ∧ JoinGives w9 (wr host9 fs9 nm9) c.1.1 (wr c.2.1.1 c.2.2.1.2.2.2 c.2.2.2.1) ∧ (∀ f ∈ c.2.2.1.2.2.2, GoodF f) ∧ c.2.2.1.2.2.2.length ≤ fs9.length + 2 ∧ GoodN c.2.2.2.1 ∧ HostOk c.2.1.1) lF3 (news_no13 lN3) ?walkB1 ?contB1
                        case walkB1 =>
                          repeat' ((fail_if_success (with_reducible show CutEnd _ _ _ _ _ _ _ _ _)); first | (k_unfold; (try dsimp only)) | walk1 | (dsimp only; walk1) | fail "no step")
                          · refine' CutEnd.intro ⟨(_, _), (host9, th9), (_, _, _, ds9), (_, _)⟩ (by with_reducible assumption) (by with_reducible assumption) ?chl ?chf ?chk ?chr
                            (case chk => kst_all)
                            (case chl => walk_at "mine in")
                            (case chr => walk_at "mine same")
                            (case chf =>
                              refine ⟨?_, (by with_reducible assumption), jg_root hh9 hg9 hn60 hm9 hdg9 hdn9 hen9, hdg9, by (dsimp only; omega), hen9.good, hh9⟩
                              exact Mine.ne9 hdne9.1 hdne9.2.2)
                          · refine' CutEnd.intro ⟨(_, _), (_, _), (_, _, _, ds9), (_, _)⟩ (by with_reducible assumption) (by with_reducible assumption) ?chl ?chf ?chk ?chr
                            (case chk => kst_all)
                            (case chl => walk_at "mine in")
                            (case chr => walk_at "mine same")
                            (case chf =>
                              refine ⟨?_, (by with_reducible assumption), nj9, hdg9, by (dsimp only; omega), hen9.good, nh9⟩
                              exact Mine.ne9 hdne9.1 hdne9.2.2)
                          · refine' CutEnd.intro ⟨(_, _), (_, _), (_, _, _, ds9), (_, _)⟩ (by with_reducible assumption) (by with_reducible assumption) ?chl ?chf ?chk ?chr
                            (case chk => kst_all)
                            (case chl => walk_at "mine in")
                            (case chr => walk_at "mine same")
                            (case chf =>
                              refine ⟨?_, (by with_reducible assumption), jg_abs0 hostOk_c hdg9 hd60 hen9.good, hdg9, by (dsimp only; omega), hen9.good, hostOk_c⟩
                              exact Mine.ne9 hdne9.1 hdne9.2.2)
                          · refine' CutEnd.intro ⟨(_, _), (_, _), (_, _, _, ds9), (_, _)⟩ (by with_reducible assumption) (by with_reducible assumption) ?chl ?chf ?chk ?chr
                            (case chk => kst_all)
                            (case chl => walk_at "mine in")
                            (case chr => walk_at "mine same")
                            (case chf =>
                              refine ⟨?_, (by with_reducible assumption), jg_abs0 hostOk_e hdg9 hd60 hen9.good, hdg9, by (dsimp only; omega), hen9.good, hostOk_e⟩
                              exact Mine.ne9 hdne9.1 hdne9.2.2)
                          · refine' CutEnd.intro ⟨(_, _), (host9, th9), (l9, vs9, n9, fs9), (nm9, tn9)⟩ (by with_reducible assumption) (by with_reducible assumption) ?chl ?chf ?chk ?chr
                            (case chk => kst_all)
                            (case chl => walk_at "mine in")
                            (case chr => walk_at "mine same")
                            (case chf =>
                              refine ⟨?_, (by with_reducible assumption), jg_empty hh9 hg9 hn60 hm9, hg9, by (dsimp only; omega), hm9, hh9⟩
                              exact Mine.ne9 (Ne.symm hI9.1) hne9)
                        case contB1 =>
                          clear lF3 lN3 na9 nb9 nc9 nd9 ne9 nf9 ng9 nh9 nj9
                          intro ⟨⟨rf9, tr9⟩, ⟨ho9, tho9⟩, ⟨fl9, fvs9, fn9, ffs9⟩, ⟨fnm9, ftn9⟩⟩ h9 tk9 hfne9 ⟨hfc9, hJG9, hfg9, hfl9, hfm9, hho9⟩ F9 N9
                          dsimp only [kstB] at hfne9 hfc9 hJG9 hfg9 hfl9 hfm9 hho9 F9 N9
                          simp only [List.forall_mem_cons, List.not_mem_nil, false_implies, implies_true, and_true] at hfne9
                          dsimp only
                          have hfll9 := GoodF.lens hfg9
                          have hfn60 : ffs9.length ≤ 60 := by omega
                          have hfml9 := hfm9.len
                          have hhol9 := hho9.len
                          have hIf9 := Ne.symm hfne9.1
                          have hself9 := self_ne (wr ho9 ffs9 fnm9)
                          repeat' ((fail_if_success (with_reducible show TurnPost _ _ _ _ _ _ _ _ _ _ _ _ _ _ _)); first | (k_unfold; (try dsimp only)) | walk1 | (dsimp only; walk1) | fail "no step")
                          all_goals first | (exfalso; omega) | walk_at "mine turn"
              case done =>
                as_aux_lemma =>
                  w_top off
                  (rename World => w9)
                  clear hc9 hn9 hg9 hm9 hh9 hne9 hl9 hhl9 hml9 hn60
                  (repeat ((rename Fr _ _ _ _ => zz9); clear zz9)); (repeat ((rename News _ _ _ _ => zz9); clear zz9))
                  intro nn9 ⟨host9, th9, l9, vs9, n9, fs9, nm9, tn9, ta9, om9⟩ u9 h9 tk9 hnn9 ⟨hc9, hn9, hg9, hm9, hh9, hne9, ⟨v9, hcell9⟩⟩ F9 N9
                  dsimp only [tsLed, tsPs, kstB] at hc9 hn9 hg9 hm9 hh9 hne9 hcell9 F9 N9
                  rw [envC_loc] at F9 N9
                  (with_reducible rename IntsAre _ _ => hIA9)
                  obtain ⟨lf9, hfa9, hfb9, hfc9, hfd9, hfe9⟩ := frag_of hIA9
                  have hlh9 : (Str.ofString "#").length ≤ 1000 := by decide +kernel
                  repeat' ((fail_if_success (with_reducible show wpAny _ _ (exec (Stmt.Assign _ _ _) _) _ _ _)); first | (k_unfold; (try dsimp only)) | walk1 | (dsimp only; walk1) | fail "no step")
                  refine cut0 (σ := Str × Tok) (fun c => [(Str.ofString "fragment", .str c.1 c.2)]) (fun c => ∃ l : List Nat, l.length ≤ 3 ∧ 58 ∉ l ∧ 35 ∉ l ∧ c.1 = S (35 :: l)) F9 N9 ?walkD1 ?contD1
                  case walkD1 =>
                    walk_at "mine steps"
                    refine' CutEnd.intro ⟨_, _⟩ (by with_reducible assumption) (by with_reducible assumption) ?chl ?chf ?chk ?chr
                    (case chk => kst_all)
                    (case chl => kst_in)
                    (case chr => walk_at "mine same")
                    (case chf => exact ⟨lf9, hfa9, hfb9, hfc9, hfd9⟩)
                  case contD1 =>
                    clear hfa9 hfb9 hfc9 hfd9 hfe9
                    intro ⟨fr9, tf9⟩ h9 tk9 ⟨lf9, hfa9, hfb9, hfc9, hfd9⟩ F9 N9
                    dsimp only [kstB] at hfd9 F9 N9
                    dsimp only
                    have hl9 := GoodF.lens hg9
                    have hhl9 := hh9.len
                    have hml9 := hm9.len
                    have hn60 : fs9.length ≤ 60 := by omega
                    obtain ⟨qa9, qb9, qc9, qd9, qe9, qf9, qg9, q19, q29, q39, qs9, qt9⟩ := done_facts (w := w9) hh9 hg9 (by omega) hm9 hfa9 hfb9 hfc9 hfd9
                    repeat' ((fail_if_success (with_reducible show GoodW _ _ _ _ _)); first | (k_unfold; (try dsimp only)) | walk1 | (dsimp only; walk1) | fail "no step")
                    rw [qt9]
                    (k_end; kc_close)))
end Mine
end
theorem PySem.Challenge.cw_er0021_01_holds : PySem.Challenge.rw_er0021_01.Holds := by
  exact Mine.t1
