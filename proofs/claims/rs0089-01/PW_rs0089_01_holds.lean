import PyProof.Rows.All
import Wide.All
import OpenK.AllK
import Wide.FinOn
import PySem.Challenge.RW_rs0089_01
set_option Elab.async false
set_option maxRecDepth 100000
set_option linter.unusedVariables false
set_option linter.unusedSimpArgs false
section
open PySem PySem.W PyProof.Rows
set_option maxRecDepth 100000
set_option maxHeartbeats 8000000
namespace Mine
open_top hd for PySem.Challenge.rw_rs0089_01
end Mine
end
section
open PySem PySem.W PyProof.Rows
namespace Mine
/-- a row of k quotation marks -/
noncomputable def row (k : Nat) : Str := ⟨(List.replicate k 34).toArray⟩
noncomputable def tlz (z : Bool) : List Nat := if z then [122] else []
/-- a reply: 257, a blank, a mark, the row, and z or nothing -/
noncomputable def resp (k : Nat) (z : Bool) : Str := ⟨([50, 53, 55, 32, 34] ++ List.replicate k 34 ++ tlz z).toArray⟩
noncomputable def half (k : Nat) (z : Bool) : Str := if k % 2 = 0 ∧ z = true then row (k / 2) ++ ⟨#[122]⟩ else row (k / 2)

theorem len_mk (l : List Nat) : (⟨l.toArray⟩ : Str).length = l.length := by simp [Str.length]
theorem row_len (k : Nat) : (row k).length = k := by simp [row, Str.length]
theorem tlz_len (z : Bool) : (tlz z).length = if z then 1 else 0 := by cases z <;> rfl
theorem resp_len (k : Nat) (z : Bool) : (resp k z).length = 5 + k + (if z then 1 else 0) := by
  unfold resp; rw [len_mk]; simp [tlz_len]; omega
theorem row_app (a b : Nat) : row a ++ row b = row (a + b) := by
  apply Str.ext'; rw [Str.cps_append]; simp [row]
theorem row_one : (⟨#[34]⟩ : Str) = row 1 := rfl
theorem row_eq_iff (a b : Nat) : row a = row b ↔ a = b := by
  constructor
  · intro h; have := congrArg Str.length h; simpa [row_len] using this
  · rintro rfl; rfl
theorem quote : Str.ofString "\"" = row 1 := by decide +kernel
theorem item_mk {l : List Nat} {i : Int} {c : Nat} (h0 : 0 ≤ i) (h : l[i.toNat]? = some c) : Txt.item ⟨l.toArray⟩ i = ⟨#[c]⟩ := by
  unfold Txt.item Txt.charAt
  rw [StrLaws.at_nonneg h0 (by simpa using h)]
  rfl
theorem item_mk_neg {l : List Nat} {i : Int} {c : Nat} (h0 : i < 0) (h1 : -(l.length : Int) ≤ i) (h : l[(i + l.length).toNat]? = some c) : Txt.item ⟨l.toArray⟩ i = ⟨#[c]⟩ := by
  unfold Txt.item Txt.charAt
  rw [StrLaws.at_neg h0 (by rw [len_mk]; exact h1) (by rw [len_mk]; simpa using h)]
  rfl
theorem slice_mk {l : List Nat} {i j : Int} (h : 0 ≤ i ∧ i ≤ j ∧ j ≤ l.length) : Txt.slice ⟨l.toArray⟩ (some i) (some j) = ⟨((l.drop i.toNat).take (j - i).toNat).toArray⟩ :=
  StrLaws.sliceText_plain (x := ⟨l.toArray⟩) (by simpa using h)
theorem slice_to {l : List Nat} {j : Int} (h : 0 ≤ j ∧ j ≤ l.length) : Txt.slice ⟨l.toArray⟩ none (some j) = ⟨(l.take j.toNat).toArray⟩ := by
  have := StrLaws.sliceText_to (x := ⟨l.toArray⟩) (j := j) (by simpa using h)
  refine Eq.trans (show Txt.slice _ none (some j) = StrLaws.sliceText _ none (some j) from rfl) ?_
  simpa using this
theorem slice_from {l : List Nat} {i : Int} (h : 0 ≤ i ∧ i ≤ l.length) : Txt.slice ⟨l.toArray⟩ (some i) none = ⟨(l.drop i.toNat).toArray⟩ := by
  have := StrLaws.sliceText_from (x := ⟨l.toArray⟩) (i := i) (by simpa using h)
  refine Eq.trans this ?_
  congr 1
  show (List.take _ (List.drop _ l)).toArray = _
  rw [List.take_of_length_le]
  simp only [List.length_drop]
  omega
theorem ne_false {a b : Str} (h : a = b) : (a != b) = false := by rw [h]; simp
theorem ne_true {a b : Str} (h : a ≠ b) : (a != b) = true := by simpa using h
theorem eq_true' {a b : Str} (h : a = b) : (a == b) = true := by rw [h]; simp
theorem eq_false' {a b : Str} (h : a ≠ b) : (a == b) = false := by simpa using h
theorem resp_item_q {k : Nat} {z : Bool} {i : Int} (h0 : 5 ≤ i) (h : i < 5 + k) : Txt.item (resp k z) i = row 1 := by
  refine item_mk (by omega) ?_
  rw [List.append_assoc, List.getElem?_append_right (by simp; omega), List.getElem?_append_left (by simp; omega), List.getElem?_replicate, if_pos (by simp; omega)]
theorem resp_item_z {k : Nat} {i : Int} (h : i = 5 + k) : Txt.item (resp k true) i = ⟨#[122]⟩ := by
  subst h
  refine item_mk (by omega) ?_
  rw [List.getElem?_append_right (by simp; omega)]
  simp [tlz]
  have : (5 + (k : Int)).toNat - (5 + k) = 0 := by omega
  simp [show (5 + (k : Int)).toNat - (k + 1 + 1 + 1 + 1 + 1) = 0 by omega]
theorem resp_s1 (k : Nat) (z : Bool) : (Txt.slice (resp k z) none (some 3) != Str.ofString "257") = false := by
  refine ne_false ?_
  unfold resp
  rw [slice_to ⟨by decide, by simp; omega⟩]
  exact (by decide +kernel : (⟨#[50, 53, 55]⟩ : Str) = Str.ofString "257")
theorem resp_s2 (k : Nat) (z : Bool) : (Txt.slice (resp k z) (some 3) (some 5) != Str.ofString " \"") = false := by
  refine ne_false ?_
  unfold resp
  rw [slice_mk ⟨by decide, by decide, by simp; omega⟩]
  exact (by decide +kernel : (⟨#[32, 34]⟩ : Str) = Str.ofString " \"")
theorem z_ne_q : (⟨#[122]⟩ : Str) ≠ row 1 := by decide
end Mine
end
section
open PySem PySem.W PyProof.Rows PySem.StrLaws PySem.Builtin PySem.Builtin.Str
namespace Mine
/-- x.find(y, i, j) -/
noncomputable def find4 (x y : Str) (i j : Int) : Int := match occurrences x y (fromIndex x.length i) (min (fromIndex x.length j) x.length) 1 with | k :: _ => (k : Int) | [] => -1
theorem gives_find4 (x y : Str) (i j : Int) (t u v v' : Tok) : Gives («str.find» ⟨[.str x t, .str y u, .int i v, .int j v'], []⟩) (.int (find4 x y i j)) := by
  show Gives (match occurrences x y (fromIndex x.length i) (min (fromIndex x.length j) x.length) 1 with | k :: _ => retInt k | [] => (do rule "str.find.not-found"; retInt (-1))) _
  unfold find4
  cases occurrences x y (fromIndex x.length i) (min (fromIndex x.length j) x.length) 1 with
  | nil => exact .rule (.of_eq rfl)
  | cons k _ => exact .of_eq rfl
theorem call_find4 {prog : Program} {w : World} {A : Around} {E : Value → Shared → Prop} {s : Shared} {x y : Str} {t u v v' : Tok} {i j : Int} {Q : Value → Shared → Prop}
    (hq : Q (.int (find4 x y i j) s.toks) { s with toks := s.toks + 1 }) : wpAny (model prog w) A (call (.builtin "str.find") [.str x t, .str y u, .int i v, .int j v']) Q E s :=
  call_gives F.slot_str_find (typeIs_str _ _ _) F.entry_str_find (F.args_str_find_4 _ _ _ _) (gives_find4 x y i j t u v v') hq

/-- three dots -/
noncomputable def dots : Str := ⟨#[46, 46, 46]⟩
theorem dots_eq : Str.ofString "..." = dots := by decide +kernel
theorem dots_len : dots.length = 3 := rfl
theorem at_dots {x : Str} {i : Nat} : At x dots x.length i ↔ (x.cps.toList.drop i).take 3 = [46, 46, 46] := by
  unfold At
  rw [subAt_eq]
  show (i + 3 ≤ x.length ∧ ((x.cps.toList.drop i).take 3 == [46, 46, 46]) = true) ↔ _
  constructor
  · rintro ⟨_, h⟩; simpa using h
  · intro h
    refine ⟨?_, by simpa using h⟩
    have := congrArg List.length h
    simp [Str.length] at this ⊢
    omega
/-- the join of texts as lists -/
noncomputable def jl : List (List Nat) → List Nat
  | [] => []
  | [p] => p
  | p :: q :: r => p ++ [46, 46, 46] ++ jl (q :: r)
noncomputable def cutsOf : Nat → List (List Nat) → List Nat
  | _, [] => []
  | _, [_] => []
  | off, p :: q :: r => (off + p.length) :: cutsOf (off + p.length + 3) (q :: r)
theorem head_not_dot {l : List Nat} {p rest : List Nat} {i : Nat} (hp : ∀ c ∈ p, c ≠ 46) (hi : i < p.length) (hl : l = p ++ rest) : (l.drop i).take 3 ≠ [46, 46, 46] := by
  intro h
  have h0 : ((l.drop i).take 3)[0]? = some 46 := by rw [h]; rfl
  rw [hl] at h0
  simp [List.getElem?_append_left hi] at h0
  exact hp 46 (List.mem_of_getElem? h0) rfl
theorem cuts_are {x : Str} : ∀ (parts : List (List Nat)) (off : Nat) (cuts : List Nat) (f : Nat), parts ≠ [] → (∀ p ∈ parts, ∀ c ∈ p, c ≠ 46) → x.cps.toList.drop off = jl parts →
    ChainG x dots x.length off cuts f → (∀ k, f ≤ k → ¬ At x dots x.length k) → cuts = cutsOf off parts
  | [], _, _, _, h, _, _, _, _ => absurd rfl h
  | [p], off, cuts, f, _, hd, hx, hc, hn => by
    have none : ∀ k, off ≤ k → ¬ At x dots x.length k := by
      intro k hk hA
      rw [at_dots] at hA
      have hlt : k - off < p.length := by
        have h3 := congrArg List.length hA
        have h4 := congrArg List.length hx
        simp [jl] at h3 h4
        omega
      refine head_not_dot (l := x.cps.toList.drop off) (p := p) (rest := []) (i := k - off) (hd p (by simp)) hlt (by rw [hx]; simp [jl]) ?_
      rw [List.drop_drop, show off + (k - off) = k by omega]
      exact hA
    cases cuts with
    | nil => rfl
    | cons c r => exact absurd hc.2.1 (none c hc.1)
  | p :: q :: r, off, cuts, f, _, hd, hx, hc, hn => by
    have hx' : x.cps.toList.drop off = p ++ [46, 46, 46] ++ jl (q :: r) := hx
    have hat : At x dots x.length (off + p.length) := by
      rw [at_dots, ← List.drop_drop, hx', List.append_assoc, List.drop_left]
      rfl
    have hno : ∀ k, off ≤ k → k < off + p.length → ¬ At x dots x.length k := by
      intro k hk h2 hA
      rw [at_dots] at hA
      refine head_not_dot (l := x.cps.toList.drop off) (p := p) (rest := [46, 46, 46] ++ jl (q :: r)) (i := k - off) (hd p (by simp)) (by omega) (by rw [hx', List.append_assoc]) ?_
      rw [List.drop_drop, show off + (k - off) = k by omega]
      exact hA
    cases cuts with
    | nil =>
      have : f = off := hc
      subst this
      exact absurd hat (hn _ (by omega))
    | cons c cr =>
      have hcc : c = off + p.length := by
        rcases Nat.lt_trichotomy c (off + p.length) with h | h | h
        · exact absurd hc.2.1 (hno c hc.1 h)
        · exact h
        · exact absurd hat (hc.2.2.1 _ (by omega) h)
      subst hcc
      have ih := cuts_are (q :: r) (off + p.length + 3) cr f (by simp) (fun p' hp' => hd p' (List.mem_cons_of_mem _ hp')) (by
        rw [show off + p.length + 3 = off + (p.length + 3) by omega, ← List.drop_drop, hx', List.append_assoc, ← List.drop_drop, List.drop_left]
        rfl) hc.2.2.2 hn
      rw [ih]
      rfl
theorem parts_are {x : Str} : ∀ (parts : List (List Nat)) (off : Nat), parts ≠ [] → off ≤ x.length → x.cps.toList.drop off = jl parts →
    partsFrom x 3 off (cutsOf off parts) = parts.map fun p => (⟨p.toArray⟩ : Str)
  | [], _, h, _, _ => absurd rfl h
  | [p], off, _, hl, hx => by
    show [strSub x off x.length] = [⟨p.toArray⟩]
    congr 1
    apply Str.ext'
    apply Array.ext'
    rw [strSub_toList, hx]
    show List.take _ p = p
    rw [List.take_of_length_le]
    have := congrArg List.length hx
    simp [jl, Str.length] at this ⊢
    omega
  | p :: q :: r, off, _, hl, hx => by
    have hx' : x.cps.toList.drop off = p ++ [46, 46, 46] ++ jl (q :: r) := hx
    have hlen := congrArg List.length hx'
    simp at hlen
    have hxl : x.length = x.cps.size := rfl
    have ih := parts_are (x := x) (q :: r) (off + p.length + 3) (by simp) (by omega) (by
        rw [show off + p.length + 3 = off + (p.length + 3) by omega, ← List.drop_drop, hx', List.append_assoc, ← List.drop_drop, List.drop_left]
        rfl)
    show strSub x off (off + p.length) :: partsFrom x 3 (off + p.length + 3) (cutsOf (off + p.length + 3) (q :: r)) = _
    rw [ih]
    show _ = (⟨p.toArray⟩ : Str) :: _
    congr 1
    apply Str.ext'
    apply Array.ext'
    rw [strSub_toList, hx', show off + p.length - off = p.length by omega, List.append_assoc, List.take_left]
theorem split_dots {parts : List (List Nat)} (h2 : 2 ≤ parts.length) (hd : ∀ p ∈ parts, ∀ c ∈ p, c ≠ 46) {x : Str} (hx : x.cps.toList = jl parts) :
    Txt.split x dots = parts.map (fun p => (⟨p.toArray⟩ : Str)) ∧ (occurrences x dots 0 x.length 1).isEmpty = false := by
  obtain ⟨p, q, r, rfl⟩ : ∃ p q r, parts = p :: q :: r := by
    match parts, h2 with
    | p :: q :: r, _ => exact ⟨p, q, r, rfl⟩
  have hat : At x dots x.length p.length := by
    rw [at_dots, hx, show jl (p :: q :: r) = p ++ ([46, 46, 46] ++ jl (q :: r)) from List.append_assoc .., List.drop_left]
    rfl
  obtain ⟨f, hc, hn⟩ := occ_tight x dots (by decide)
  have e := cuts_are (p :: q :: r) 0 _ f (by simp) hd (by simpa using hx) hc hn
  refine ⟨?_, ?_⟩
  · unfold Txt.split
    rw [if_neg, if_neg]
    · rw [partsBetween_eq, e]
      exact parts_are (p :: q :: r) 0 (by simp) (by omega) (by simpa using hx)
    · rw [e]; simp [cutsOf]
    · have h3 := hat.1
      rw [dots_len] at h3
      have hk : Builtin.Str.strKind dots = 1 := by decide +kernel
      have hk2 : 1 ≤ Builtin.Str.strKind x := by unfold Builtin.Str.strKind; split <;> (try split) <;> omega
      rw [hk, dots_len]
      simp
      omega
  · have := (found_iff x dots).mpr ⟨_, hat⟩
    simpa using this
end Mine
end
section
open PySem PySem.W PyProof.Rows PySem.StrLaws PySem.Builtin PySem.Builtin.Str
namespace Mine
/-- a sign c ahead of a row -/
noncomputable def crow (c k : Nat) : Str := ⟨(c :: List.replicate k 34).toArray⟩
theorem crow_len (c k : Nat) : (crow c k).length = k + 1 := by simp [crow, Str.length]
theorem crow_eq (c k : Nat) : (⟨#[c]⟩ : Str) ++ row k = crow c k := by
  apply Str.ext'; rw [Str.cps_append]; simp [row, crow]
theorem row_list (k : Nat) : (row k).cps.toList = List.replicate k 34 := rfl
theorem crow_list (c k : Nat) : (crow c k).cps.toList = c :: List.replicate k 34 := rfl
theorem starts_crow (l k : Nat) : Txt.startswith (crow 120 k) (crow 120 l) = decide (l ≤ k) := by
  unfold Txt.startswith
  rw [subAt_eq, crow_len, crow_len, crow_list, crow_list]
  simp [List.take_replicate]
  intro h; omega
theorem starts_z (l k : Nat) : Txt.startswith (crow 122 k) (crow 120 l) = false := by
  unfold Txt.startswith
  rw [subAt_eq, crow_len, crow_len, crow_list, crow_list]
  simp
theorem ends_crow {l k : Nat} (hl : 1 ≤ l) : Txt.endswith (crow 120 k) (row l) = decide (l ≤ k) := by
  unfold Txt.endswith
  rw [subAt_eq, crow_len, row_len, crow_list, row_list]
  by_cases h : l ≤ k
  · have : k + 1 - l = (k - l) + 1 := by omega
    rw [this]
    simp [List.take_replicate, h]
    omega
  · by_cases h2 : l = k + 1
    · subst h2
      have e1 : (decide (k + 1 ≤ k)) = false := by simp
      rw [e1, List.replicate_succ]
      simp
    · simp [h]; omega
theorem occ_at {x y : Str} {lo hi : Nat} (h : lo + y.length ≤ hi) (hs : subAt x y lo = true) : ∃ r, occurrences x y lo hi 1 = lo :: r := by
  rw [occ_eq]
  have e : hi + 1 - lo = (hi - lo) + 1 := by omega
  rw [e, List.range'_succ, List.forIn_cons]
  have hb : occBody x y hi 1 lo ((#[] : Array Nat), lo) = pure (ForInStep.yield (#[lo], lo + y.length)) := by
    unfold occBody
    rw [if_pos ⟨⟨⟨by simp, Nat.le_refl _⟩, h⟩, hs⟩]
    rfl
  rw [hb]
  have := occ_head_keeps x y hi 1 lo (List.range' (lo + 1) (hi - lo)) (#[lo], lo + y.length) (by simp)
  generalize hg : (forIn (List.range' (lo + 1) (hi - lo)) ((#[lo] : Array Nat), lo + y.length) (occBody x y hi 1)).run.fst = arr at this
  have h1 : arr.toList[0]? = some lo := by simpa using this
  cases hL : arr.toList with
  | nil => rw [hL] at h1; cases h1
  | cons b t =>
    rw [hL] at h1; simp at h1
    refine ⟨t, ?_⟩
    rw [← h1, ← hL, ← hg]
theorem occ_no {x y : Str} {lo hi : Nat} (h : hi < lo + y.length) : occurrences x y lo hi 1 = [] := by
  rw [occ_eq]
  have key := (occ_none x y hi (List.range' lo (hi + 1 - lo)) lo (fun i hi' => by have := List.mem_range'_1.mp hi'; omega)).mpr (fun i hi' hc => by
    have := List.mem_range'_1.mp hi'
    omega)
  rw [key]
theorem from_nat {n : Nat} {i : Int} (h : 0 ≤ i) : fromIndex n i = i.toNat := by
  unfold fromIndex; rw [if_neg (by omega)]; omega
theorem find4_crow {c k l : Nat} {i j : Int} (h1 : 1 ≤ i) (h2 : i ≤ j) (h3 : j ≤ k + 1) : find4 (crow c k) (row l) i j = if (l : Int) ≤ j - i then i else -1 := by
  unfold find4
  rw [from_nat (by omega), from_nat (by omega), crow_len, show min j.toNat (k + 1) = j.toNat by omega]
  by_cases h : (l : Int) ≤ j - i
  · rw [if_pos h]
    obtain ⟨r, hr⟩ := occ_at (x := crow c k) (y := row l) (lo := i.toNat) (hi := j.toNat) (by rw [row_len]; omega) (by
      rw [subAt_eq, row_len, crow_list, row_list, show i.toNat = (i.toNat - 1) + 1 by omega]
      simp [List.take_replicate]
      omega)
    rw [hr]
    show (i.toNat : Int) = i
    omega
  · rw [if_neg h, occ_no (by rw [row_len]; omega)]
theorem find4_empty_z {x : Str} {j : Int} (h1 : 0 ≤ j) : find4 x (row 0) 0 j = 0 := by
  unfold find4
  rw [from_nat (by omega), from_nat (by omega)]
  obtain ⟨r, hr⟩ := occ_at (x := x) (y := row 0) (lo := Int.toNat 0) (hi := min j.toNat x.length) (by rw [row_len]; simp) (by
      rw [subAt_eq, row_len, row_list]; simp)
  rw [hr]
  rfl
end Mine
namespace Mine
theorem call_find4_row {prog : Program} {w : World} {A : Around} {E : Value → Shared → Prop} {s : Shared} {c k l : Nat} {t u v v' : Tok} {i j : Int} {Q : Value → Shared → Prop} (h1 : 1 ≤ i) (h2 : i ≤ j) (h3 : j ≤ k + 1)
    (hq1 : (l : Int) ≤ j - i → Q (.int i s.toks) { s with toks := s.toks + 1 }) (hq2 : ¬ (l : Int) ≤ j - i → Q (.int (-1) s.toks) { s with toks := s.toks + 1 }) :
    wpAny (model prog w) A (call (.builtin "str.find") [.str (crow c k) t, .str (row l) u, .int i v, .int j v']) Q E s := by
  refine call_find4 ?_
  rw [find4_crow h1 h2 h3]
  split
  · rename_i h; exact hq1 h
  · rename_i h; exact hq2 h
end Mine
end
section
open PySem PySem.W PyProof.Rows PySem.StrLaws PySem.Builtin PySem.Builtin.Str
namespace Mine
/-- XyWv and a row -/
noncomputable def lx (k : Nat) : Str := ⟨([88, 121, 87, 118] ++ List.replicate k 34).toArray⟩
/-- xYwV with a z at place c -/
noncomputable def hdl (c : Nat) : List Nat := if c = 0 then [122, 120, 89, 119, 86] else if c = 1 then [120, 122, 89, 119, 86] else [120, 89, 122, 119, 86]
noncomputable def ly (c k : Nat) : Str := ⟨(hdl c ++ List.replicate k 34).toArray⟩
theorem hdl_len (c : Nat) : (hdl c).length = 5 := by unfold hdl; split <;> (try split) <;> rfl
theorem lx_len (k : Nat) : (lx k).length = k + 4 := by simp [lx, Str.length]
theorem ly_len (c k : Nat) : (ly c k).length = k + 5 := by simp [ly, Str.length, hdl_len]; omega
theorem lx_ne_ly (c k j : Nat) : (lx k == ly c j) = false := by
  refine eq_false' fun h => ?_
  have h1 : (lx k).cps.toList = (ly c j).cps.toList := by rw [h]
  simp [lx, ly, hdl] at h1
  split at h1
  · simp at h1
  · split at h1 <;> simp at h1
theorem slice_full (x : Str) : Txt.slice x none none = x := by
  obtain ⟨⟨l⟩⟩ := x
  have e : Txt.slice ⟨l.toArray⟩ none none = Txt.slice ⟨l.toArray⟩ (some 0) (some (l.length : Int)) := by
    show StrLaws.sliceText _ none none = StrLaws.sliceText _ _ _
    unfold StrLaws.sliceText
    rw [sliceIdx_none_lo, sliceIdx_none_hi]
    simp [Str.length]
  rw [e, slice_mk ⟨by omega, by omega, by omega⟩]
  simp
theorem slice_zero (x : Str) : Txt.slice x (some 0) none = x := by
  obtain ⟨⟨l⟩⟩ := x
  rw [slice_from ⟨by omega, by omega⟩]
  simp
/-- x[:p] for a p below nought -/
theorem slice_neg {l : List Nat} {p : Int} (h0 : p < 0) (h1 : -(l.length : Int) ≤ p) : Txt.slice ⟨l.toArray⟩ none (some p) = ⟨(l.take (p + l.length).toNat).toArray⟩ := by
  have e : Txt.slice ⟨l.toArray⟩ none (some p) = Txt.slice ⟨l.toArray⟩ none (some (p + l.length)) := by
    have := StrLaws.sliceText_neg_hi ⟨l.toArray⟩ none h0 (by rw [len_mk]; exact h1)
    rw [len_mk] at this
    exact this
  rw [e, slice_to ⟨by omega, by omega⟩]
theorem slice_neg_len {l : List Nat} {p : Int} (h0 : p < 0) (h1 : -(l.length : Int) ≤ p) : ((Txt.slice ⟨l.toArray⟩ none (some p)).length : Int) = p + l.length := by
  rw [slice_neg h0 h1, len_mk]
  simp
  omega
theorem lx_cut_len {k : Nat} {p : Int} (h0 : p < 0) (h1 : -(k : Int) ≤ p) : ((Txt.slice (lx k) none (some p)).length : Int) = p + k + 4 := by
  unfold lx; rw [slice_neg_len h0 (by simp; omega)]; simp; omega
theorem ly_cut_len {c k : Nat} {p : Int} (h0 : p < 0) (h1 : -(k : Int) ≤ p) : ((Txt.slice (ly c k) none (some p)).length : Int) = p + k + 5 := by
  unfold ly; rw [slice_neg_len h0 (by simp; omega)]; simp [hdl_len]; omega
theorem app_back {l : List Nat} {k : Nat} {p : Int} (h0 : p < 0) (h1 : -(k : Int) ≤ p) : Txt.item ⟨(l ++ List.replicate k 34).toArray⟩ p = row 1 := by
  refine item_mk_neg h0 (by simp; omega) ?_
  rw [List.getElem?_append_right (by simp; omega), List.getElem?_replicate, if_pos (by simp; omega)]
theorem lx_back {k : Nat} {p : Int} (h0 : p < 0) (h1 : -(k : Int) ≤ p) : Txt.item (lx k) p = row 1 := app_back h0 h1
theorem ly_back {c k : Nat} {p : Int} (h0 : p < 0) (h1 : -(k : Int) ≤ p) : Txt.item (ly c k) p = row 1 := app_back h0 h1
theorem app_last {l : List Nat} {k n : Nat} (hl : l[l.length - 1]? = some n) (h1 : 1 ≤ l.length) {p : Int} (hp : p = -(k : Int) - 1) : Txt.item ⟨(l ++ List.replicate k 34).toArray⟩ p = ⟨#[n]⟩ := by
  subst hp
  refine item_mk_neg (by omega) (by simp; omega) ?_
  rw [List.getElem?_append_left (by simp; omega), ← hl]
  congr 1
  simp; omega
theorem lx_last {k : Nat} {p : Int} (hp : p = -(k : Int) - 1) : Txt.item (lx k) p = ⟨#[118]⟩ := app_last rfl (by simp) hp
theorem ly_last {c k : Nat} {p : Int} (hp : p = -(k : Int) - 1) : Txt.item (ly c k) p = ⟨#[86]⟩ := by
  refine app_last ?_ (by rw [hdl_len]; omega) hp
  unfold hdl; split <;> (try split) <;> rfl
theorem ends_differ {c k j : Nat} (hj : j ≤ k) {p : Int} (hp : p = -(j : Int) - 1) : (Txt.item (lx k) p == Txt.item (ly c j) p) = false := by
  rw [ly_last hp]
  refine eq_false' ?_
  by_cases h : j = k
  · subst h; rw [lx_last hp]; decide
  · rw [lx_back (by omega) (by omega)]; decide
theorem ends_alike {c k j : Nat} (hj : j ≤ k) {p : Int} (h0 : p < 0) (hp : -(j : Int) ≤ p) : (Txt.item (lx k) p == Txt.item (ly c j) p) = true := by
  rw [ly_back h0 hp, lx_back h0 (by omega)]; simp
theorem first_differ (c k j : Nat) : (Txt.item (lx k) 0 == Txt.item (ly c j) 0) = false := by
  refine eq_false' ?_
  have e1 : Txt.item (lx k) 0 = ⟨#[88]⟩ := item_mk (by omega) (by simp)
  rw [e1]
  have : Txt.item (ly c j) 0 = ⟨#[if c = 0 then 122 else 120]⟩ := by
    refine item_mk (by omega) ?_
    unfold hdl
    split
    · simp
    · split <;> simp
  rw [this]
  split <;> decide
theorem app_cut {l : List Nat} {k j : Nat} (h1 : 1 ≤ j) (hj : j ≤ k) {p : Int} (hp : p = -(j : Int)) : Txt.slice ⟨(l ++ List.replicate k 34).toArray⟩ none (some p) = ⟨(l ++ List.replicate (k - j) 34).toArray⟩ := by
  subst hp
  rw [slice_neg (by omega) (by simp; omega)]
  congr 2
  have e : (-(j : Int) + ((l ++ List.replicate k 34).length : Int)).toNat = l.length + (k - j) := by simp; omega
  rw [e, List.take_length_add_append, List.take_replicate]
  congr 2
  omega
theorem lx_cut {k j : Nat} (h1 : 1 ≤ j) (hj : j ≤ k) {p : Int} (hp : p = -(j : Int)) : Txt.slice (lx k) none (some p) = lx (k - j) := app_cut h1 hj hp
theorem ly_cut {c j : Nat} (h1 : 1 ≤ j) {p : Int} (hp : p = -(j : Int)) : Txt.slice (ly c j) none (some p) = ly c 0 := by
  have := app_cut (l := hdl c) h1 (Nat.le_refl j) hp
  rw [Nat.sub_self] at this
  exact this
/-- the small letter of a letter -/
noncomputable def low (c : Nat) : Nat := if 65 ≤ c ∧ c ≤ 90 then c + 32 else c
noncomputable def cost (a b : Nat) : Int := if a = b then 0 else if low a = low b then 1 else 2
theorem one_eq (a b : Nat) : ((⟨#[a]⟩ : Str) == ⟨#[b]⟩) = decide (a = b) := by
  by_cases h : a = b
  · subst h; simp
  · rw [decide_eq_false h]; refine eq_false' fun e => h ?_
    have := congrArg (fun s : Str => s.cps[0]?) e
    simpa using this
noncomputable def lsigns : List Nat := [88, 121, 87, 118, 34, 122, 120, 89, 119, 86]
theorem lower_is : ∀ c ∈ lsigns, Txt.lower ⟨#[c]⟩ = ⟨#[low c]⟩ := by decide +kernel
end Mine
end
section
open PySem PySem.W PyProof.Rows PySem.StrLaws PySem.Builtin PySem.Builtin.Str
namespace Mine
/-- one place of a row: the row, the result, the distance, the minimum -/
noncomputable def innerStep (bc : Nat) (al : List Nat) (st : List Int × Int × Int × Int) (i : Nat) : List Int × Int × Int × Int :=
  (st.1.set i (min (min st.2.1 (st.1.getD i 0) + 2) (st.2.2.1 + cost bc (al.getD i 0))),
   min (min st.2.1 (st.1.getD i 0) + 2) (st.2.2.1 + cost bc (al.getD i 0)),
   st.1.getD i 0,
   if min (min st.2.1 (st.1.getD i 0) + 2) (st.2.2.1 + cost bc (al.getD i 0)) < st.2.2.2 then min (min st.2.1 (st.1.getD i 0) + 2) (st.2.2.1 + cost bc (al.getD i 0)) else st.2.2.2)
noncomputable def innerN (bc : Nat) (al : List Nat) (st : List Int × Int × Int × Int) : Nat → List Int × Int × Int × Int
  | 0 => st
  | k + 1 => innerStep bc al (innerN bc al st k) k
noncomputable def rowStart (n : Nat) : List Int := (List.range n).map fun i : Nat => (2 : Int) + (i : Int) * 2
noncomputable def outerN (al bl : List Nat) : Nat → List Int × Int
  | 0 => (rowStart al.length, 0)
  | k + 1 => ((innerN (bl.getD k 0) al ((outerN al bl k).1, (k : Int) * 2, (k : Int) * 2, 9223372036854775807) al.length).1, (innerN (bl.getD k 0) al ((outerN al bl k).1, (k : Int) * 2, (k : Int) * 2, 9223372036854775807) al.length).2.1)
noncomputable def minAt (al bl : List Nat) (k : Nat) : Int := (innerN (bl.getD k 0) al ((outerN al bl k).1, (k : Int) * 2, (k : Int) * 2, 9223372036854775807) al.length).2.2.2
theorem innerStep_len (bc : Nat) (al : List Nat) (st : List Int × Int × Int × Int) (i : Nat) : (innerStep bc al st i).1.length = st.1.length := by simp [innerStep]
theorem innerN_len (bc : Nat) (al : List Nat) (st : List Int × Int × Int × Int) (k : Nat) : (innerN bc al st k).1.length = st.1.length := by
  induction k with
  | zero => rfl
  | succ k ih => rw [innerN, innerStep_len, ih]
theorem outerN_len (al bl : List Nat) (k : Nat) : (outerN al bl k).1.length = al.length := by
  induction k with
  | zero => simp [outerN, rowStart]
  | succ k ih => simp only [outerN]; rw [innerN_len]; exact ih
noncomputable def xl : List Nat := [88, 121, 87, 118]
theorem lev0 : ∀ c < 3, (outerN xl (hdl c) 5).2 = 6 := by decide +kernel
theorem lev0min : ∀ c < 3, ∀ k < 5, minAt xl (hdl c) k ≤ 6 := by decide +kernel
end Mine
namespace Mine
theorem ints_of : ∀ (vs : List Value) (a : Int) (n : Nat), vs.length = n → (∀ (j : Nat) (v : Value), vs[j]? = some v → ∃ t, v = .int (a + j * 2) t) → IntsAre vs ((List.range n).map fun i : Nat => a + (i : Int) * 2)
  | [], a, n, e, _ => by
    subst e
    exact IntsAre.nil
  | v :: r, a, n, e, h => by
    subst e
    rw [List.length_cons, List.range_succ_eq_map, List.map_cons, List.map_map]
    obtain ⟨t, ht⟩ := h 0 v rfl
    have hv : v = .int a t := by rw [ht]; simp
    subst hv
    have ih := ints_of r (a + 2) r.length rfl fun j v hj => by
      obtain ⟨t', ht'⟩ := h (j + 1) v hj
      refine ⟨t', ht'.trans ?_⟩
      congr 1
      omega
    have e1 : a + ((0 : Nat) : Int) * 2 = a := by simp
    rw [e1]
    refine IntsAre.cons _ _ ?_
    have e2 : ((fun i : Nat => a + (i : Int) * 2) ∘ Nat.succ) = fun i : Nat => a + 2 + (i : Int) * 2 := by
      funext i; simp only [Function.comp]; omega
    rw [e2]
    exact ih
/-- list(range(a, b, 2)) -/
theorem list_range2 {prog : Program} {w : World} {A : Around} {E : Value → Shared → Prop} {s : Shared} {h₀ : Heap} {L r : Addr} {m : Str → Option Value} {news : List (Addr × Obj)} {a b : Int} {t₀ u₀ v₀ : Tok} {n : Nat} {Q : Value → Shared → Prop}
    (hh : A.handled = none) (F : Fr h₀ L s.heap m) (N : News h₀ L s.heap news) (hr : IsRange s.heap r a b 2 t₀ u₀ v₀) (hsmall : Builtin.Range.small a b 2 = true) (hn : Builtin.Range.rangeSize a b 2 = (n : Int)) (hz : n ≤ 2 ^ 24)
    (h : ∀ D us c h' tk, Fr h₀ L h' m → News h₀ L h' ((D, listOf (List.toArray us) c) :: news) → (∀ p ∈ news, p.1 < D) → IntsAre us ((List.range n).map fun i : Nat => a + (i : Int) * 2) → Q (.ref D) { s with heap := h', toks := tk }) :
    wpAny (model prog w) A (call (.type "list") [.ref r]) Q E s := by
  refine call_list_range hh hr hsmall hn hz fun h' tk acc c hk hD hI => ?_
  have hD' : h'.get? s.heap.objs.size = some (listOf (List.toArray acc.toList) c) := by
    rw [Array.toArray_toList]
    exact hD
  exact h _ acc.toList c h' tk (F.keeps hk) (news_pushed F N hk hD' rfl) (fun p hp => Heap.lt_size (N p hp).1) (ints_of _ _ _ (by rw [Array.length_toList]; exact hI.1) fun j v hj => hI.2 j v (by rw [← hj, Array.getElem?_toList]))
end Mine
namespace Mine
theorem item_getD {l : List Nat} {k : Int} (h0 : 0 ≤ k) (h : k < l.length) : Txt.item ⟨l.toArray⟩ k = ⟨#[l.getD k.toNat 0]⟩ := by
  refine item_mk h0 ?_
  rw [List.getD_eq_getElem?_getD, List.getElem?_eq_getElem (by omega)]
  rfl
theorem ly_item {c : Nat} {k : Int} (h0 : 0 ≤ k) (h : k < ((ly c 0).length : Int)) : Txt.item (ly c 0) k = ⟨#[(hdl c).getD k.toNat 0]⟩ := by
  rw [ly_len] at h
  have e : ly c 0 = ⟨(hdl c).toArray⟩ := by unfold ly; simp
  rw [e]
  exact item_getD h0 (by rw [hdl_len]; omega)
theorem lx_item {d : Nat} {k : Int} (h0 : 0 ≤ k) (h : k < ((lx d).length : Int)) : Txt.item (lx d) k = ⟨#[(xl ++ List.replicate d 34).getD k.toNat 0]⟩ := by
  rw [lx_len] at h
  exact item_getD h0 (by simp [xl]; omega)
theorem lx0_item {k : Int} (h0 : 0 ≤ k) (h : k < ((lx 0).length : Int)) : Txt.item (lx 0) k = ⟨#[xl.getD k.toNat 0]⟩ := by
  have := lx_item h0 h
  rwa [List.replicate_zero, List.append_nil] at this
theorem getD_mem {l : List Nat} {i : Nat} (h : i < l.length) (hl : ∀ a ∈ l, a ∈ lsigns) : l.getD i 0 ∈ lsigns := by
  rw [List.getD_eq_getElem?_getD, List.getElem?_eq_getElem h]
  exact hl _ (List.getElem_mem h)
theorem hdl_all (c : Nat) : ∀ a ∈ hdl c, a ∈ lsigns := by
  unfold hdl
  split
  · decide
  · split <;> decide
theorem hdl_mem {c : Nat} {k : Int} (h0 : 0 ≤ k) (h : k < ((ly c 0).length : Int)) : (hdl c).getD k.toNat 0 ∈ lsigns := by
  rw [ly_len] at h
  exact getD_mem (by rw [hdl_len]; omega) (hdl_all c)
theorem xlr_mem {d : Nat} {k : Int} (h0 : 0 ≤ k) (h : k < ((lx d).length : Int)) : (xl ++ List.replicate d 34).getD k.toNat 0 ∈ lsigns := by
  rw [lx_len] at h
  refine getD_mem (by simp [xl]; omega) fun a ha => ?_
  rcases List.mem_append.mp ha with ha | ha
  · exact (by decide : ∀ a ∈ xl, a ∈ lsigns) a ha
  · rw [List.eq_of_mem_replicate ha]; decide
theorem xl_mem {k : Int} (h0 : 0 ≤ k) (h : k < ((lx 0).length : Int)) : xl.getD k.toNat 0 ∈ lsigns := by
  have := xlr_mem h0 h
  rwa [List.replicate_zero, List.append_nil] at this
/-- one more place, as the walk finds it -/
theorem inner_next {bc : Nat} {al : List Nat} {st : List Int × Int × Int × Int} {n : Nat} {ns : List Int} {res di mi k r2 mi2 : Int} {ac : Nat} (h : (ns, res, di, mi) = innerN bc al st n) (hk : k.toNat = n) (hac : ac = al.getD k.toNat 0)
    (h2 : r2 = min (min res (ns.getD k.toNat 0) + 2) (di + cost bc ac)) (h3 : mi2 = if r2 < mi then r2 else mi) :
    (ns.set k.toNat r2, r2, ns.getD k.toNat 0, mi2) = innerN bc al st (n + 1) := by
  subst hk hac
  rw [innerN, ← h]
  unfold innerStep
  dsimp only
  rw [← h2, h3]
end Mine
namespace Mine
theorem outer_next {al bl : List Nat} {n na : Nat} {ns ns6 : List Int} {res res6 di6 mi6 k : Int} (hna : na = al.length) (hP : (ns, res) = outerN al bl n) (hk : k = (n : Int))
    (h : (ns6, res6, di6, mi6) = innerN (bl.getD k.toNat 0) al (ns, k * 2, k * 2, 9223372036854775807) na) : (ns6, res6) = outerN al bl (n + 1) ∧ mi6 = minAt al bl n := by
  subst hk hna
  have e1 : ((n : Int)).toNat = n := by omega
  have e2 : ns = (outerN al bl n).1 := congrArg Prod.fst hP
  rw [e1, e2] at h
  refine ⟨?_, ?_⟩
  · rw [outerN, ← h]
  · rw [minAt, ← h]
theorem inner_eq {bc : Nat} {al : List Nat} {row : List Int} {res di mi w r mi2 : Int} {i : Nat} (hr : row.getD i 0 = r) (hw : min (min res r + 2) (di + cost bc (al.getD i 0)) = w) (hm : (if w < mi then w else mi) = mi2) :
    innerStep bc al (row, res, di, mi) i = (row.set i w, w, r, mi2) := by
  unfold innerStep
  dsimp only
  rw [hr, hw, hm]
theorem cost_q {c i : Nat} (h : i < 5) : cost 34 ((hdl c).getD i 0) = 2 := by
  unfold hdl
  split
  · revert i; decide
  · split
    · revert i; decide
    · revert i; decide
noncomputable def big : Int := 9223372036854775807
theorem q0 {T : Int} (h0 : 0 ≤ T) (h1 : T ≤ 1000) : innerN 34 (hdl 0) ([8 + T, 8 + T, 8 + T, 7 + T, 6 + T], 8 + T, 8 + T, 9223372036854775807) 5 = ([8 + (2 + T), 8 + (2 + T), 8 + (2 + T), 7 + (2 + T), 6 + (2 + T)], 6 + (2 + T), 6 + T, 6 + (2 + T)) := by
  have s0 : innerStep 34 (hdl 0) ([8 + T, 8 + T, 8 + T, 7 + T, 6 + T], 8 + T, 8 + T, 9223372036854775807) 0 = ([8 + (2 + T), 8 + T, 8 + T, 7 + T, 6 + T], 8 + (2 + T), 8 + T, 8 + (2 + T)) := inner_eq rfl (by rw [cost_q (by omega)]; omega) (by rw [if_pos (by omega)])
  have s1 : innerStep 34 (hdl 0) ([8 + (2 + T), 8 + T, 8 + T, 7 + T, 6 + T], 8 + (2 + T), 8 + T, 8 + (2 + T)) 1 = ([8 + (2 + T), 8 + (2 + T), 8 + T, 7 + T, 6 + T], 8 + (2 + T), 8 + T, 8 + (2 + T)) := inner_eq rfl (by rw [cost_q (by omega)]; omega) (by rw [if_neg (by omega)])
  have s2 : innerStep 34 (hdl 0) ([8 + (2 + T), 8 + (2 + T), 8 + T, 7 + T, 6 + T], 8 + (2 + T), 8 + T, 8 + (2 + T)) 2 = ([8 + (2 + T), 8 + (2 + T), 8 + (2 + T), 7 + T, 6 + T], 8 + (2 + T), 8 + T, 8 + (2 + T)) := inner_eq rfl (by rw [cost_q (by omega)]; omega) (by rw [if_neg (by omega)])
  have s3 : innerStep 34 (hdl 0) ([8 + (2 + T), 8 + (2 + T), 8 + (2 + T), 7 + T, 6 + T], 8 + (2 + T), 8 + T, 8 + (2 + T)) 3 = ([8 + (2 + T), 8 + (2 + T), 8 + (2 + T), 7 + (2 + T), 6 + T], 7 + (2 + T), 7 + T, 7 + (2 + T)) := inner_eq rfl (by rw [cost_q (by omega)]; omega) (by rw [if_pos (by omega)])
  have s4 : innerStep 34 (hdl 0) ([8 + (2 + T), 8 + (2 + T), 8 + (2 + T), 7 + (2 + T), 6 + T], 7 + (2 + T), 7 + T, 7 + (2 + T)) 4 = ([8 + (2 + T), 8 + (2 + T), 8 + (2 + T), 7 + (2 + T), 6 + (2 + T)], 6 + (2 + T), 6 + T, 6 + (2 + T)) := inner_eq rfl (by rw [cost_q (by omega)]; omega) (by rw [if_pos (by omega)])
  simp only [innerN, s0, s1, s2, s3, s4]
theorem q1 {T : Int} (h0 : 0 ≤ T) (h1 : T ≤ 1000) : innerN 34 (hdl 1) ([7 + T, 7 + T, 7 + T, 7 + T, 6 + T], 8 + T, 8 + T, 9223372036854775807) 5 = ([7 + (2 + T), 7 + (2 + T), 7 + (2 + T), 7 + (2 + T), 6 + (2 + T)], 6 + (2 + T), 6 + T, 6 + (2 + T)) := by
  have s0 : innerStep 34 (hdl 1) ([7 + T, 7 + T, 7 + T, 7 + T, 6 + T], 8 + T, 8 + T, 9223372036854775807) 0 = ([7 + (2 + T), 7 + T, 7 + T, 7 + T, 6 + T], 7 + (2 + T), 7 + T, 7 + (2 + T)) := inner_eq rfl (by rw [cost_q (by omega)]; omega) (by rw [if_pos (by omega)])
  have s1 : innerStep 34 (hdl 1) ([7 + (2 + T), 7 + T, 7 + T, 7 + T, 6 + T], 7 + (2 + T), 7 + T, 7 + (2 + T)) 1 = ([7 + (2 + T), 7 + (2 + T), 7 + T, 7 + T, 6 + T], 7 + (2 + T), 7 + T, 7 + (2 + T)) := inner_eq rfl (by rw [cost_q (by omega)]; omega) (by rw [if_neg (by omega)])
  have s2 : innerStep 34 (hdl 1) ([7 + (2 + T), 7 + (2 + T), 7 + T, 7 + T, 6 + T], 7 + (2 + T), 7 + T, 7 + (2 + T)) 2 = ([7 + (2 + T), 7 + (2 + T), 7 + (2 + T), 7 + T, 6 + T], 7 + (2 + T), 7 + T, 7 + (2 + T)) := inner_eq rfl (by rw [cost_q (by omega)]; omega) (by rw [if_neg (by omega)])
  have s3 : innerStep 34 (hdl 1) ([7 + (2 + T), 7 + (2 + T), 7 + (2 + T), 7 + T, 6 + T], 7 + (2 + T), 7 + T, 7 + (2 + T)) 3 = ([7 + (2 + T), 7 + (2 + T), 7 + (2 + T), 7 + (2 + T), 6 + T], 7 + (2 + T), 7 + T, 7 + (2 + T)) := inner_eq rfl (by rw [cost_q (by omega)]; omega) (by rw [if_neg (by omega)])
  have s4 : innerStep 34 (hdl 1) ([7 + (2 + T), 7 + (2 + T), 7 + (2 + T), 7 + (2 + T), 6 + T], 7 + (2 + T), 7 + T, 7 + (2 + T)) 4 = ([7 + (2 + T), 7 + (2 + T), 7 + (2 + T), 7 + (2 + T), 6 + (2 + T)], 6 + (2 + T), 6 + T, 6 + (2 + T)) := inner_eq rfl (by rw [cost_q (by omega)]; omega) (by rw [if_pos (by omega)])
  simp only [innerN, s0, s1, s2, s3, s4]
theorem q2 {T : Int} (h0 : 0 ≤ T) (h1 : T ≤ 1000) : innerN 34 (hdl 2) ([7 + T, 6 + T, 6 + T, 6 + T, 6 + T], 8 + T, 8 + T, 9223372036854775807) 5 = ([7 + (2 + T), 6 + (2 + T), 6 + (2 + T), 6 + (2 + T), 6 + (2 + T)], 6 + (2 + T), 6 + T, 6 + (2 + T)) := by
  have s0 : innerStep 34 (hdl 2) ([7 + T, 6 + T, 6 + T, 6 + T, 6 + T], 8 + T, 8 + T, 9223372036854775807) 0 = ([7 + (2 + T), 6 + T, 6 + T, 6 + T, 6 + T], 7 + (2 + T), 7 + T, 7 + (2 + T)) := inner_eq rfl (by rw [cost_q (by omega)]; omega) (by rw [if_pos (by omega)])
  have s1 : innerStep 34 (hdl 2) ([7 + (2 + T), 6 + T, 6 + T, 6 + T, 6 + T], 7 + (2 + T), 7 + T, 7 + (2 + T)) 1 = ([7 + (2 + T), 6 + (2 + T), 6 + T, 6 + T, 6 + T], 6 + (2 + T), 6 + T, 6 + (2 + T)) := inner_eq rfl (by rw [cost_q (by omega)]; omega) (by rw [if_pos (by omega)])
  have s2 : innerStep 34 (hdl 2) ([7 + (2 + T), 6 + (2 + T), 6 + T, 6 + T, 6 + T], 6 + (2 + T), 6 + T, 6 + (2 + T)) 2 = ([7 + (2 + T), 6 + (2 + T), 6 + (2 + T), 6 + T, 6 + T], 6 + (2 + T), 6 + T, 6 + (2 + T)) := inner_eq rfl (by rw [cost_q (by omega)]; omega) (by rw [if_neg (by omega)])
  have s3 : innerStep 34 (hdl 2) ([7 + (2 + T), 6 + (2 + T), 6 + (2 + T), 6 + T, 6 + T], 6 + (2 + T), 6 + T, 6 + (2 + T)) 3 = ([7 + (2 + T), 6 + (2 + T), 6 + (2 + T), 6 + (2 + T), 6 + T], 6 + (2 + T), 6 + T, 6 + (2 + T)) := inner_eq rfl (by rw [cost_q (by omega)]; omega) (by rw [if_neg (by omega)])
  have s4 : innerStep 34 (hdl 2) ([7 + (2 + T), 6 + (2 + T), 6 + (2 + T), 6 + (2 + T), 6 + T], 6 + (2 + T), 6 + T, 6 + (2 + T)) 4 = ([7 + (2 + T), 6 + (2 + T), 6 + (2 + T), 6 + (2 + T), 6 + (2 + T)], 6 + (2 + T), 6 + T, 6 + (2 + T)) := inner_eq rfl (by rw [cost_q (by omega)]; omega) (by rw [if_neg (by omega)])
  simp only [innerN, s0, s1, s2, s3, s4]
noncomputable def r4 (c : Nat) (T : Int) : List Int := if c = 0 then [8 + T, 8 + T, 8 + T, 7 + T, 6 + T] else if c = 1 then [7 + T, 7 + T, 7 + T, 7 + T, 6 + T] else [7 + T, 6 + T, 6 + T, 6 + T, 6 + T]
theorem r4_step {c : Nat} (hc : c < 3) {T : Int} (h0 : 0 ≤ T) (h1 : T ≤ 1000) : innerN 34 (hdl c) (r4 c T, 8 + T, 8 + T, 9223372036854775807) 5 = (r4 c (2 + T), 6 + (2 + T), 6 + T, 6 + (2 + T)) := by
  match c, hc with
  | 0, _ => exact q0 h0 h1
  | 1, _ => exact q1 h0 h1
  | 2, _ => exact q2 h0 h1
theorem four : ∀ c < 3, outerN (hdl c) xl 4 = (r4 c 0, 6) ∧ ∀ k < 4, minAt (hdl c) xl k ≤ 6 := by decide +kernel
theorem outer_agree {al bl bl' : List Nat} : ∀ {k : Nat}, (∀ i < k, bl.getD i 0 = bl'.getD i 0) → outerN al bl k = outerN al bl' k
  | 0, _ => rfl
  | k + 1, h => by rw [outerN, outerN, outer_agree (k := k) (fun i hi => h i (by omega)), h k (by omega)]
theorem bl_left {d i : Nat} (h : i < 4) : (xl ++ List.replicate d 34).getD i 0 = xl.getD i 0 := by
  rw [List.getD_eq_getElem?_getD, List.getElem?_append_left (by simpa [xl] using h), ← List.getD_eq_getElem?_getD]
theorem bl_right {d i : Nat} (h : 4 ≤ i) (h2 : i < d + 4) : (xl ++ List.replicate d 34).getD i 0 = 34 := by
  rw [List.getD_eq_getElem?_getD, List.getElem?_append_right (by simpa [xl] using h), List.getElem?_replicate, if_pos (by simp [xl]; omega)]
  rfl
theorem rows_are {c d : Nat} (hc : c < 3) : ∀ {t : Nat}, t ≤ d → t ≤ 400 → outerN (hdl c) (xl ++ List.replicate d 34) (4 + t) = (r4 c (2 * (t : Int)), 6 + 2 * (t : Int))
  | 0, _, _ => by
    have e := outer_agree (al := hdl c) (bl := xl ++ List.replicate d 34) (bl' := xl) (k := 4) fun i hi => bl_left hi
    exact e.trans (four c hc).1
  | t + 1, h, h4 => by
    have ih := rows_are hc (d := d) (t := t) (by omega) (by omega)
    have e0 : outerN (hdl c) (xl ++ List.replicate d 34) (4 + (t + 1)) = outerN (hdl c) (xl ++ List.replicate d 34) ((4 + t) + 1) := rfl
    rw [e0]
    rw [outerN, ih, bl_right (by omega) (by omega), hdl_len]
    have e : ((4 + t : Nat) : Int) * 2 = 8 + 2 * (t : Int) := by omega
    rw [e, r4_step hc (by omega) (by omega)]
    have e2 : (2 : Int) + 2 * (t : Int) = 2 * ((t + 1 : Nat) : Int) := by omega
    rw [e2]
theorem mins_are {c d k : Nat} (hc : c < 3) (hk : k < d + 4) (hd : d ≤ 400) : minAt (hdl c) (xl ++ List.replicate d 34) k ≤ 2 * (d : Int) + 6 := by
  by_cases h : k < 4
  · have e : minAt (hdl c) (xl ++ List.replicate d 34) k = minAt (hdl c) xl k := by
      rw [minAt, minAt, outer_agree (bl' := xl) fun i hi => bl_left (by omega), bl_left h]
    rw [e]
    have := (four c hc).2 k h
    omega
  · obtain ⟨t, rfl⟩ : ∃ t, k = 4 + t := ⟨k - 4, by omega⟩
    have ih := rows_are hc (d := d) (t := t) (by omega) (by omega)
    rw [minAt, ih, bl_right (by omega) (by omega), hdl_len]
    have e : ((4 + t : Nat) : Int) * 2 = 8 + 2 * (t : Int) := by omega
    rw [e, r4_step hc (by omega) (by omega)]
    dsimp only
    omega
theorem levbig {c d : Nat} (hc : c < 3) (hd : d ≤ 400) : (outerN (hdl c) (xl ++ List.replicate d 34) (d + 4)).2 = 2 * (d : Int) + 6 := by
  have := rows_are hc (d := d) (t := d) (by omega) (by omega)
  rw [Nat.add_comm d 4, this]
  dsimp only
  omega
end Mine
namespace Mine
theorem small_n : ∀ n ≤ 60, Builtin.Range.small 0 ((n : Nat) : Int) 1 = true := by decide +kernel
theorem size_n : ∀ n ≤ 60, Builtin.Range.rangeSize 0 ((n : Nat) : Int) 1 = ((n : Nat) : Int) := by decide +kernel
end Mine
end
section
open PySem PySem.W PyProof.Rows PySem.StrLaws PySem.Builtin PySem.Builtin.Str
namespace Mine
theorem ofs257 : Str.ofString "257 \"" = ⟨#[50, 53, 55, 32, 34]⟩ := by decide +kernel
theorem ofsz : Str.ofString "z" = ⟨#[122]⟩ := by decide +kernel
theorem ofsx : Str.ofString "x" = ⟨#[120]⟩ := by decide +kernel
theorem resp_eq1 (k : Nat) : Str.ofString "257 \"" ++ row k ++ Str.ofString "z" = resp k true := by
  rw [ofs257, ofsz]
  apply Str.ext'
  rw [Str.cps_append, Str.cps_append]
  simp [row, resp, tlz]
theorem resp_eq2 (k : Nat) : Str.ofString "257 \"" ++ row k = resp k false := by
  rw [ofs257]
  apply Str.ext'
  rw [Str.cps_append]
  simp [row, resp, tlz]
theorem rowz (k : Nat) : row k ++ ⟨#[122]⟩ = (⟨(List.replicate k 34 ++ [122]).toArray⟩ : Str) := by
  apply Str.ext'
  apply Array.ext'
  rw [Str.cps_append, Array.toList_append]
  rfl
theorem half_even {k : Nat} (h : k % 2 = 0) : half k true = ⟨(List.replicate (k / 2) 34 ++ [122]).toArray⟩ := by
  unfold half; rw [if_pos ⟨h, rfl⟩, rowz]
theorem half_odd {k : Nat} (h : ¬ k % 2 = 0) : half k true = row (k / 2) := by
  unfold half; rw [if_neg (by simp [h])]
theorem half_len (k : Nat) (z : Bool) : (half k z).length ≤ k / 2 + 1 := by
  unfold half
  split
  · rw [Str.length_append, row_len]; exact Nat.le_refl _
  · rw [row_len]; omega
theorem ends_even {k : Nat} (h : k % 2 = 0) : Txt.endswith (half k true) (crow 122 0) = true := by
  rw [half_even h]
  unfold Txt.endswith
  rw [subAt_eq, crow_len, crow_list, len_mk]
  simp
theorem ends_odd {k : Nat} (h : ¬ k % 2 = 0) : Txt.endswith (half k true) (crow 122 0) = false := by
  rw [half_odd h]
  unfold Txt.endswith
  rw [subAt_eq, row_len, crow_len, crow_list, row_list]
  by_cases h0 : k / 2 = 0
  · rw [h0]; simp
  · simp [List.take_replicate]
    intro _
    rw [show min 1 (k / 2 - (k / 2 - 1)) = 1 by omega]
    decide
theorem cut_even {k : Nat} (h : k % 2 = 0) : Txt.slice (half k true) none (some (-1)) = row (k / 2) := by
  rw [half_even h, slice_neg (by omega) (by simp; omega)]
  have e : (-1 + ((List.replicate (k / 2) 34 ++ [122]).length   : Int)).toNat = k / 2 := by simp; omega
  rw [e]
  simp [row]
end Mine
namespace Mine
theorem pairEq {a b : Str} {x y : Int} {t u : Tok} (h1 : a = b) (h2 : x = y) : [Value.str a t, Value.int x u] = [Value.str b t, Value.int y u] := by rw [h1, h2]
theorem fmod_nat {c d : Int} (h0 : 0 ≤ c) (hd : 0 < d) : ∃ f : Nat, c.fmod d = (f : Int) ∧ (f : Int) < d := by
  rw [Int.fmod_eq_emod_of_nonneg _ (Int.le_of_lt hd)]
  have h1 := Int.emod_nonneg c (Int.ne_of_gt hd)
  have h2 := Int.emod_lt_of_pos c hd
  exact ⟨(c % d).toNat, by omega, by omega⟩
theorem fdiv_nonneg' {c d : Int} (h0 : 0 ≤ c) (hd : 0 < d) : 0 ≤ c.fdiv d := by
  rw [Int.fdiv_eq_ediv_of_nonneg _ (Int.le_of_lt hd)]
  exact Int.ediv_nonneg h0 (Int.le_of_lt hd)
theorem row_slice {n f g : Nat} (h : f + g ≤ n) : Txt.slice (row n) (some ((f : Nat) : Int)) (some ((f + g : Nat) : Int)) = row g := by
  unfold row
  rw [slice_mk ⟨by omega, by omega, by simp; omega⟩]
  congr 2
  rw [List.drop_replicate, List.take_replicate]
  congr 1
  omega
theorem row_to {n f : Nat} (h : f ≤ n) : Txt.slice (row n) none (some ((f : Nat) : Int)) = row f := by
  unfold row
  rw [slice_to ⟨by omega, by simp; omega⟩]
  congr 2
  rw [List.take_replicate]
  congr 1
  omega
theorem row_from {n f : Nat} (h : f ≤ n) : Txt.slice (row n) (some ((f : Nat) : Int)) none = row (n - f) := by
  unfold row
  rw [slice_from ⟨by omega, by simp; omega⟩]
  congr 2
  rw [List.drop_replicate]
  congr 1
theorem row_empty (g : Nat) : (row g != Str.ofString "") = decide (g ≠ 0) := by
  have e : Str.ofString "" = row 0 := by decide +kernel
  rw [e]
  by_cases h : g = 0
  · subst h; simp
  · rw [decide_eq_true h]; exact ne_true (fun e => h ((row_eq_iff _ _).mp e))
theorem xrow_eq (n : Nat) : Str.ofString "x" ++ row n = crow 120 n := by rw [ofsx, crow_eq]
theorem zrow_eq (n : Nat) : Str.ofString "z" ++ row n = crow 122 n := by rw [ofsz, crow_eq]
theorem crow_dots (k : Nat) : ∀ c ∈ (120 :: List.replicate k 34), c ≠ 46 := by
  intro c hc
  rcases List.mem_cons.mp hc with rfl | hc
  · decide
  · rw [List.eq_of_mem_replicate hc]; decide
theorem row_dots (k : Nat) : ∀ c ∈ List.replicate k 34, c ≠ 46 := by
  intro c hc
  rw [List.eq_of_mem_replicate hc]; decide
theorem want2 {f r : Nat} {x : Str} (hx : x = Str.join (Str.ofString "...") [crow 120 f, row r]) : Txt.split x (Str.ofString "...") = [crow 120 f, row r] ∧ (occurrences x (Str.ofString "...") 0 x.length 1).isEmpty = false ∧ x.length = f + r + 4 := by
  have hl : x.cps.toList = jl [120 :: List.replicate f 34, List.replicate r 34] := by
    rw [hx, dots_eq]; simp [Str.join, Str.cps_append, jl, crow, row, dots]
  have h := split_dots (parts := [120 :: List.replicate f 34, List.replicate r 34]) (by simp) (by
    intro p hp; simp only [List.mem_cons, List.not_mem_nil, or_false] at hp; rcases hp with rfl | rfl
    · exact crow_dots f
    · exact row_dots r) hl
  rw [dots_eq]
  refine ⟨h.1, h.2, ?_⟩
  have := congrArg List.length hl
  simp [jl] at this
  show x.cps.size = _
  omega
theorem want3 {f g r : Nat} {x : Str} (hx : x = Str.join (Str.ofString "...") [crow 120 f, row g, row r]) : Txt.split x (Str.ofString "...") = [crow 120 f, row g, row r] ∧ (occurrences x (Str.ofString "...") 0 x.length 1).isEmpty = false ∧ x.length = f + g + r + 7 := by
  have hl : x.cps.toList = jl [120 :: List.replicate f 34, List.replicate g 34, List.replicate r 34] := by
    rw [hx, dots_eq]; simp [Str.join, Str.cps_append, jl, crow, row, dots]
  have h := split_dots (parts := [120 :: List.replicate f 34, List.replicate g 34, List.replicate r 34]) (by simp) (by
    intro p hp; simp only [List.mem_cons, List.not_mem_nil, or_false] at hp; rcases hp with rfl | rfl | rfl
    · exact crow_dots f
    · exact row_dots g
    · exact row_dots r) hl
  rw [dots_eq]
  refine ⟨h.1, h.2, ?_⟩
  have := congrArg List.length hl
  simp [jl] at this
  show x.cps.size = _
  omega
theorem want4 {f g h' r : Nat} {x : Str} (hx : x = Str.join (Str.ofString "...") [crow 120 f, row g, row h', row r]) : Txt.split x (Str.ofString "...") = [crow 120 f, row g, row h', row r] ∧ (occurrences x (Str.ofString "...") 0 x.length 1).isEmpty = false ∧ x.length = f + g + h' + r + 10 := by
  have hl : x.cps.toList = jl [120 :: List.replicate f 34, List.replicate g 34, List.replicate h' 34, List.replicate r 34] := by
    rw [hx, dots_eq]; simp [Str.join, Str.cps_append, jl, crow, row, dots]
  have h := split_dots (parts := [120 :: List.replicate f 34, List.replicate g 34, List.replicate h' 34, List.replicate r 34]) (by simp) (by
    intro p hp; simp only [List.mem_cons, List.not_mem_nil, or_false] at hp; rcases hp with rfl | rfl | rfl | rfl
    · exact crow_dots f
    · exact row_dots g
    · exact row_dots h'
    · exact row_dots r) hl
  rw [dots_eq]
  refine ⟨h.1, h.2, ?_⟩
  have := congrArg List.length hl
  simp [jl] at this
  show x.cps.size = _
  omega
end Mine
namespace Mine
theorem lx_eq (k : Nat) : Str.ofString "XyWv" ++ row k = lx k := by
  rw [show Str.ofString "XyWv" = ⟨#[88, 121, 87, 118]⟩ by decide +kernel]
  apply Str.ext'
  apply Array.ext'
  rw [Str.cps_append, Array.toList_append]
  rfl
theorem head_eq : ∀ c < 3, Txt.slice (Str.ofString "xYwV") none (some ((c : Nat) : Int)) ++ Str.ofString "z" ++ Txt.slice (Str.ofString "xYwV") (some ((c : Nat) : Int)) none = (⟨(hdl c).toArray⟩ : Str) := by decide +kernel
theorem ly_eq {c : Nat} (h : c < 3) (k : Nat) : Txt.slice (Str.ofString "xYwV") none (some ((c : Nat) : Int)) ++ Str.ofString "z" ++ Txt.slice (Str.ofString "xYwV") (some ((c : Nat) : Int)) none ++ row k = ly c k := by
  rw [head_eq c h]
  apply Str.ext'
  apply Array.ext'
  rw [Str.cps_append, Array.toList_append]
  rfl
theorem half_gap (d : Nat) : half (2 * d + 1) false = row d := by
  unfold half
  rw [if_neg (by simp)]
  congr 1
  omega
end Mine
namespace Mine
theorem foldl_q : ∀ (k : Nat) (acc : Array Nat), ((List.replicate k (#[34] : Array Nat)).foldl (· ++ ·) acc).toList = acc.toList ++ List.replicate k 34
  | 0, acc => by simp
  | k + 1, acc => by
    rw [List.replicate_succ, List.foldl_cons, foldl_q k]
    simp [List.replicate_succ]
theorem mul_q {n : Int} (h : 0 ≤ n) : Txt.mul (Str.ofString "\"") n = row n.toNat := by
  rw [quote]
  unfold Txt.mul
  split
  · have : n.toNat = 0 := by omega
    rw [this]; rfl
  · split
    · rename_i h1 h2
      have : n = 1 := by
        rcases Bool.or_eq_true_iff.mp h2 with h3 | h3
        · simpa using h3
        · rw [row_len] at h3; cases h3
      subst this; rfl
    · apply Str.ext'
      apply Array.ext'
      show ((List.replicate n.toNat (#[34] : Array Nat)).foldl (· ++ ·) #[]).toList = List.replicate n.toNat 34
      rw [foldl_q]
      simp
theorem gap_eq (d : Nat) : Str.ofString "257 \"" ++ Txt.mul (Str.ofString "\"") (2 * (d : Int) + 6 - 5) = resp (2 * d + 1) false := by
  rw [mul_q (by omega), show (2 * (d : Int) + 6 - 5).toNat = 2 * d + 1 by omega, resp_eq2]
end Mine
end
section
open PySem PySem.W PyProof.Rows PySem.StrLaws PySem.Builtin PySem.Builtin.Str
namespace Mine
/-- one turn: the two numbers and the sign -/
noncomputable def stepP (a n : Nat) (s : Int) : Nat × Nat × Int :=
  if a % 2 = 0 then (a / 2, n, if n / 2 % 2 ≠ n / 2 / 2 % 2 then -s else s)
  else if n ≤ a then (a - n, n, s)
  else (n, a, if a / 2 % 2 + n / 2 % 2 = 2 then -s else s)
/-- the turns, at most so many -/
noncomputable def runP : Nat → Nat → Nat → Int → Int × Int
  | 0, _, _, s => (s, 0)
  | k + 1, a, n, s => if a = 0 ∨ n = 1 then (s, (n : Int)) else runP k (stepP a n s).1 (stepP a n s).2.1 (stepP a n s).2.2
theorem run_end {k a n : Nat} {s : Int} (h : a = 0 ∨ n = 1) : runP (k + 1) a n s = (s, (n : Int)) := by
  show (if a = 0 ∨ n = 1 then (s, (n : Int)) else _) = _
  rw [if_pos h]
theorem run_even {k a n : Nat} {s : Int} (h : ¬ (a = 0 ∨ n = 1)) (he : a % 2 = 0) : runP (k + 1) a n s = runP k (a / 2) n (if n / 2 % 2 ≠ n / 2 / 2 % 2 then -s else s) := by
  show (if a = 0 ∨ n = 1 then (s, (n : Int)) else _) = _
  rw [if_neg h]
  unfold stepP
  rw [if_pos he]
theorem run_gap {k a n : Nat} {s : Int} (h : ¬ (a = 0 ∨ n = 1)) (he : ¬ a % 2 = 0) (hl : n ≤ a) : runP (k + 1) a n s = runP k (a - n) n s := by
  show (if a = 0 ∨ n = 1 then (s, (n : Int)) else _) = _
  rw [if_neg h]
  unfold stepP
  rw [if_neg he, if_pos hl]
theorem run_swap {k a n : Nat} {s : Int} (h : ¬ (a = 0 ∨ n = 1)) (he : ¬ a % 2 = 0) (hl : ¬ n ≤ a) : runP (k + 1) a n s = runP k n a (if a / 2 % 2 + n / 2 % 2 = 2 then -s else s) := by
  show (if a = 0 ∨ n = 1 then (s, (n : Int)) else _) = _
  rw [if_neg h]
  unfold stepP
  rw [if_neg he, if_neg hl]
theorem ell_q : (occurrences (Str.ofString "\"") (Str.ofString "...") 0 (Str.ofString "\"").length 1).isEmpty = true := by decide +kernel
theorem quote_len : (Str.ofString "\"").length = 1 := by decide +kernel
theorem quote_row (n : Nat) : (Str.ofString "\"" == row n) = decide (n = 1) := by
  rw [quote]
  by_cases h : n = 1
  · subst h; simp
  · rw [decide_eq_false h]; exact eq_false' (fun e => h ((row_eq_iff _ _).mp e).symm)
theorem row_empty' (g : Nat) : (row g == Str.ofString "") = decide (g = 0) := by
  have e : Str.ofString "" = row 0 := by decide +kernel
  rw [e]
  by_cases h : g = 0
  · subst h; simp
  · rw [decide_eq_false h]; exact eq_false' (fun e => h ((row_eq_iff _ _).mp e))
end Mine
namespace Mine
/-- the squares that leave what a leaves -/
noncomputable def gP (a p : Int) (l : List Int) (k : Int) : List Int := if (k * k - a).fmod p = 0 then l ++ [k] else l
noncomputable def cntP (a : Int) (p : Nat) : Int := ((rangeKs 0 p).foldl (gP a p) []).length
noncomputable def prodP (a : Int) : Nat → Nat → Nat → Int → Int
  | 0, _, _, x => x
  | k + 1, n, p, x => if n ≤ 1 then x else if n % p = 0 then prodP a k (n / p) p (x * (cntP a p - 1)) else prodP a k n (p + 2) x
noncomputable def okP : Nat → Nat → Nat → Bool
  | 0, n, _ => decide (n ≤ 1)
  | k + 1, n, p => if n ≤ 1 then true else if n % p = 0 then okP k (n / p) p else okP k n (p + 2)
theorem gP_grows (a p : Int) : ∀ l k, (gP a p l k).length ≤ l.length + 1 := by
  intro l k
  unfold gP
  split
  · simp
  · omega
theorem cntP_le (a : Int) (p : Nat) : 0 ≤ cntP a p ∧ cntP a p ≤ p := by
  have := kpf_len (gP_grows a p) (rangeKs 0 p) []
  rw [rangeKs_length] at this
  unfold cntP
  simp only [List.length_nil, Nat.zero_add] at this
  omega
theorem prod_end {a : Int} {k n p : Nat} {x : Int} (h : n ≤ 1) : prodP a k n p x = x := by
  cases k with
  | zero => rfl
  | succ k => show (if n ≤ 1 then x else _) = x; rw [if_pos h]
theorem prod_div {a : Int} {k n p : Nat} {x : Int} (h : ¬ n ≤ 1) (hd : n % p = 0) : prodP a (k + 1) n p x = prodP a k (n / p) p (x * (cntP a p - 1)) := by
  show (if n ≤ 1 then x else if n % p = 0 then _ else _) = _; rw [if_neg h, if_pos hd]
theorem prod_next {a : Int} {k n p : Nat} {x : Int} (h : ¬ n ≤ 1) (hd : ¬ n % p = 0) : prodP a (k + 1) n p x = prodP a k n (p + 2) x := by
  show (if n ≤ 1 then x else if n % p = 0 then _ else _) = _; rw [if_neg h, if_neg hd]
theorem ok_pos {k n p : Nat} (h : ¬ n ≤ 1) (hk : okP k n p = true) : ∃ k', k = k' + 1 := by
  cases k with
  | zero => exact absurd (of_decide_eq_true hk) h
  | succ k => exact ⟨k, rfl⟩
theorem ok_div {k n p : Nat} (h : ¬ n ≤ 1) (hd : n % p = 0) (hk : okP (k + 1) n p = true) : okP k (n / p) p = true := by
  have : (if n ≤ 1 then true else if n % p = 0 then okP k (n / p) p else okP k n (p + 2)) = true := hk
  rwa [if_neg h, if_pos hd] at this
theorem ok_next {k n p : Nat} (h : ¬ n ≤ 1) (hd : ¬ n % p = 0) (hk : okP (k + 1) n p = true) : okP k n (p + 2) = true := by
  have : (if n ≤ 1 then true else if n % p = 0 then okP k (n / p) p else okP k n (p + 2)) = true := hk
  rwa [if_neg h, if_neg hd] at this
theorem abs_div {a x : Int} {n p : Nat} (hp : 1 ≤ p) (h : x.natAbs * n ≤ 35) : (x * (cntP a p - 1)).natAbs * (n / p) ≤ 35 := by
  have hc := cntP_le a p
  have h1 : (cntP a p - 1).natAbs ≤ p := by omega
  rw [Int.natAbs_mul]
  calc x.natAbs * (cntP a p - 1).natAbs * (n / p) ≤ x.natAbs * p * (n / p) := Nat.mul_le_mul_right _ (Nat.mul_le_mul_left _ h1)
    _ = x.natAbs * (p * (n / p)) := Nat.mul_assoc _ _ _
    _ ≤ x.natAbs * n := Nat.mul_le_mul_left _ (Nat.mul_div_le n p)
    _ ≤ 35 := h
theorem abs_small {x : Int} {n : Nat} (hn : 1 ≤ n) (h : x.natAbs * n ≤ 35) : x.natAbs ≤ 35 := Nat.le_trans (Nat.le_mul_of_pos_right _ hn) h
theorem fmod_cast {n p : Nat} (hp : 1 ≤ p) : ((n : Int)).fmod (p : Int) = ((n % p : Nat) : Int) := by
  rw [Int.fmod_eq_emod_of_nonneg _ (by omega)]; rfl
theorem fdiv_cast {n p : Nat} (hp : 1 ≤ p) : ((n : Int)).fdiv (p : Int) = ((n / p : Nat) : Int) := by
  rw [Int.fdiv_eq_ediv_of_nonneg _ (by omega)]; rfl
end Mine
namespace Mine
theorem bits_small {a : Int} (h : a.natAbs ≤ 1000) : Builtin.Int.intBits a ≤ 64 := by
  unfold Builtin.Int.intBits
  split
  · omega
  · rename_i h0
    have h0 : ¬ a = 0 := by simpa using h0
    have : a.natAbs.log2 < 10 := by
      rw [Nat.log2_lt (by omega)]; omega
    omega
end Mine
end
section
open PySem PySem.W PyProof.Rows PySem.StrLaws PySem.Builtin PySem.Builtin.Str
namespace Mine
/-- the numbers that divide both -/
noncomputable def gD (n a : Int) (l : List Int) (k : Int) : List Int := if n.fmod k = 0 ∧ a.fmod k = 0 then l ++ [k] else l
noncomputable def dueL (n a : Nat) : List Int := (rangeKs 1 n).foldl (gD n a) []
theorem gD_grows (n a : Int) : ∀ l k, (gD n a l k).length ≤ l.length + 1 := by
  intro l k
  unfold gD
  split
  · simp
  · omega
noncomputable def dueN (n a : Nat) : Int := (dueL n a).foldl (fun m x => if m < x then x else m) 0
/-- the law, reckoned -/
noncomputable def LawOk (a n : Nat) : Prop :=
  okP 40 n 3 = true ∧ 0 < (dueL n a).length ∧ dueN n a ∈ dueL n a ∧ (∀ x ∈ dueL n a, x ≤ dueN n a) ∧
  (1 < dueN n a → 0 = prodP a 40 n 3 1) ∧ (¬ 1 < dueN n a → (runP 40 a n 1).1 = prodP a 40 n 3 1) ∧ (runP 40 a n 1).2 = dueN n a
abbrev LawD (m i : Nat) : Prop := okP 40 (3 + 2 * m) 3 = true ∧ 0 < (dueL (3 + 2 * m) (1 + i)).length ∧ dueN (3 + 2 * m) (1 + i) ∈ dueL (3 + 2 * m) (1 + i) ∧ (∀ x ∈ dueL (3 + 2 * m) (1 + i), x ≤ dueN (3 + 2 * m) (1 + i)) ∧
    (1 < dueN (3 + 2 * m) (1 + i) → 0 = prodP ((1 + i : Nat) : Int) 40 (3 + 2 * m) 3 1) ∧ (¬ 1 < dueN (3 + 2 * m) (1 + i) → (runP 40 (1 + i) (3 + 2 * m) 1).1 = prodP ((1 + i : Nat) : Int) 40 (3 + 2 * m) 3 1) ∧ (runP 40 (1 + i) (3 + 2 * m) 1).2 = dueN (3 + 2 * m) (1 + i)
set_option maxRecDepth 100000 in
theorem law_dec0 : ∀ m < 6, ∀ i < 35, LawD m i := by decide +kernel
set_option maxRecDepth 100000 in
theorem law_dec1 : ∀ m < 4, ∀ i < 35, LawD (6 + m) i := by decide +kernel
set_option maxRecDepth 100000 in
theorem law_dec2 : ∀ m < 3, ∀ i < 35, LawD (10 + m) i := by decide +kernel
set_option maxRecDepth 100000 in
theorem law_dec3 : ∀ m < 2, ∀ i < 35, LawD (13 + m) i := by decide +kernel
set_option maxRecDepth 100000 in
theorem law_dec4 : ∀ m < 2, ∀ i < 35, LawD (15 + m) i := by decide +kernel
theorem law_dec (m : Nat) (hm : m < 17) (i : Nat) (hi : i < 35) : LawD m i := by
  by_cases h0 : m < 6
  · exact law_dec0 m h0 i hi
  by_cases h1 : m < 10
  · obtain ⟨k, rfl⟩ := Nat.exists_eq_add_of_le (Nat.le_of_not_lt h0)
    exact law_dec1 k (by omega) i hi
  by_cases h2 : m < 13
  · obtain ⟨k, rfl⟩ := Nat.exists_eq_add_of_le (Nat.le_of_not_lt h1)
    exact law_dec2 k (by omega) i hi
  by_cases h3 : m < 15
  · obtain ⟨k, rfl⟩ := Nat.exists_eq_add_of_le (Nat.le_of_not_lt h2)
    exact law_dec3 k (by omega) i hi
  · obtain ⟨k, rfl⟩ := Nat.exists_eq_add_of_le (Nat.le_of_not_lt h3)
    exact law_dec4 k (by omega) i hi
theorem law_all {m i : Nat} (hm : m < 17) (hi : i < 35) : LawOk (1 + i) (3 + 2 * m) := law_dec m hm i hi
theorem ints3 {vs : List Value} {a b c : Int} (h : IntsAre vs [a, b, c]) : ∃ t u v, vs = [.int a t, .int b u, .int c v] := by
  cases h with
  | cons _ t h => cases h with
    | cons _ u h => cases h with
      | cons _ v h => cases h; exact ⟨t, u, v, rfl⟩
theorem drawn3 (ns : List Int) : ∃ d0 d1 d2 : Int, (List.map (fun k' : Int => k'.fmod 1000000) (List.take 3 ns) ++ List.drop (((List.map (fun k' : Int => k'.fmod 1000000) (List.take 3 ns)).length : Int)).toNat [6, 12, 6]) = [d0, d1, d2] ∧ 0 ≤ d2 := by
  have nn (x : Int) : 0 ≤ x.fmod 1000000 := by rw [Int.fmod_eq_emod_of_nonneg _ (by decide)]; omega
  match ns with
  | [] => exact ⟨6, 12, 6, rfl, by decide⟩
  | [x] => exact ⟨x.fmod 1000000, 12, 6, rfl, by decide⟩
  | [x, y] => exact ⟨x.fmod 1000000, y.fmod 1000000, 6, rfl, by decide⟩
  | x :: y :: z :: r => exact ⟨x.fmod 1000000, y.fmod 1000000, z.fmod 1000000, by simp, nn z⟩
theorem drawN (d : Int) : ∃ m : Nat, m < 17 ∧ 3 + 2 * d.fmod 17 = ((3 + 2 * m : Nat) : Int) := by
  rw [Int.fmod_eq_emod_of_nonneg _ (by decide)]
  exact ⟨(d % 17).toNat, by omega, by omega⟩
theorem drawA (d : Int) : ∃ i : Nat, i < 35 ∧ 1 + d.fmod 35 = ((1 + i : Nat) : Int) := by
  rw [Int.fmod_eq_emod_of_nonneg _ (by decide)]
  exact ⟨(d % 35).toNat, by omega, by omega⟩
theorem small_1n : ∀ n ≤ 40, Builtin.Range.small 1 (((n : Nat) : Int) + 1) 1 = true := by decide +kernel
theorem size_1n : ∀ n ≤ 40, Builtin.Range.rangeSize 1 (((n : Nat) : Int) + 1) 1 = ((n : Nat) : Int) := by decide +kernel
end Mine
namespace Mine
theorem mul_qn (n : Nat) : Txt.mul (Str.ofString "\"") ((n : Nat) : Int) = row n := by
  rw [mul_q (by omega), Int.toNat_natCast]
end Mine
end
section
open PySem PySem.W PyProof.Rows PySem.Calls PySem.Spec
set_option maxRecDepth 100000
set_option maxHeartbeats 8000000
namespace Mine
abbrev PG : Program := Challenge.rw_rs0089_01.row.prog
abbrev RetT := Heap → Addr → (Str → Option Value) → List (Addr × Obj) → Shared → (Value → Shared → Prop) → Prop
abbrev Says (n : Nat) (w : World) (f : Addr) (vs : List Value) (R : RetT) : Prop :=
  ∀ (loose : List Str) (mean : ExcName → Option Value) (mg mb : Str → Option Value) (dp un : Nat) (gd : Option (List Code)) (cn : Str) (cs : Scope) (a : Addr) (ccd : Value) (cl : List (Str × Addr)) (outer : List Env) (A₀ : Around) (base h₀ : Heap) (L : Addr) (m : Str → Option Value) (news : List (Addr × Obj)) (s : Shared) (Q E : Value → Shared → Prop),
    Below A₀ base outer h₀ → Fr h₀ L s.heap m → (hd.heap_39 w.params).In h₀ → News h₀ L s.heap news → Top hd.view_39 loose mean mg mb h₀ → cs.kind = .function →
    dp + n < recursionLimit → un + 10 * n < cLine → R h₀ L m news s Q →
    wpAny (model Challenge.rw_rs0089_01.row.prog w) (ktrTop dp un gd cn cs L a ccd cl outer) (call (.ref f) vs) Q E s
abbrev RetStr (x : Str) : RetT := fun h₀ L m news s Q => ∀ (t : Tok) (h' : Heap) (tk' : Nat), Fr h₀ L h' m → News h₀ L h' news → Q (.str x t) { s with heap := h', toks := tk' }
abbrev RetBool (x : Bool) : RetT := fun h₀ L m news s Q => ∀ (h' : Heap) (tk' : Nat), Fr h₀ L h' m → News h₀ L h' news → Q (.bool x) { s with heap := h', toks := tk' }
abbrev RetInt (x : Int) : RetT := fun h₀ L m news s Q => ∀ (t : Tok) (h' : Heap) (tk' : Nat), Fr h₀ L h' m → News h₀ L h' news → Q (.int x t) { s with heap := h', toks := tk' }
theorem Says.use {n : Nat} {w : World} {f : Addr} {vs : List Value} {R : RetT} (C : Says n w f vs R)
    {loose : List Str} {mean : ExcName → Option Value} {mg mb : Str → Option Value} {dp un : Nat} {gd : Option (List Code)} {cn : Str} {cs : Scope} {a : Addr} {ccd : Value} {cl : List (Str × Addr)} {outer : List Env} {A₀ : Around} {base h₀ : Heap} {L : Addr} {m : Str → Option Value} {news : List (Addr × Obj)} {s : Shared} {Q E : Value → Shared → Prop}
    (hB : Below A₀ base outer h₀) (hF : Fr h₀ L s.heap m) (hX : (hd.heap_39 w.params).In h₀) (hN : News h₀ L s.heap news) (hT : Top hd.view_39 loose mean mg mb h₀) (hk : cs.kind = .function)
    (hdp : dp + n < recursionLimit) (hun : un + 10 * n < cLine) (hr : R h₀ L m news s Q) :
    wpAny (model Challenge.rw_rs0089_01.row.prog w) (ktrTop dp un gd cn cs L a ccd cl outer) (call (.ref f) vs) Q E s :=
  C loose mean mg mb dp un gd cn cs a ccd cl outer A₀ base h₀ L m news s Q E hB hF hX hN hT hk hdp hun hr
/-- fills the library's table of the written part -/
theorem fill : (Challenge.rw_rs0089_01.prog, hd.heap_39) = (Challenge.rw_rs0089_01.prog, hd.heap_39) := by
  k_fill
  rfl
end Mine
namespace Mine
/-- a tuple comes back -/
abbrev RetTup (vs : List Value → Prop) : RetT := fun h₀ L m news s Q => ∀ (a : Addr) (xs : List Value) (h' : Heap) (tk' : Nat), vs xs → Fr h₀ L h' m → News h₀ L h' ((a, { cls := .type "tuple", data := .seq xs.toArray }) :: news) → (∀ p ∈ news, p.1 < a) → Q (.ref a) { s with heap := h', toks := tk' }
end Mine
end
section
open PySem PySem.W PyProof.Rows PySem.Calls PySem.Spec
set_option maxRecDepth 100000
set_option maxHeartbeats 8000000
namespace Mine
theorem fill1 : (Challenge.rw_rs0089_01.prog, hd.heap_39) = (Challenge.rw_rs0089_01.prog, hd.heap_39) := by
  w_top off
  k_fill
  rfl
/-- what holds between parse257's turns -/
def ParseInv (k : Nat) (z : Bool) (i : Int) (dn : Str) : Prop :=
  (∃ j : Nat, 2 * j ≤ k ∧ i = 5 + 2 * j ∧ dn = row j) ∨ (k % 2 = 0 ∧ z = true ∧ i = 6 + k ∧ dn = row (k / 2) ++ ⟨#[122]⟩)
theorem c_parse (w : World) (k : Nat) (z : Bool) (hk200 : k ≤ 200) (x : Str) (hx : x = resp k z) (t : Tok) : Says 5 w 53 [.str x t] (RetStr (half k z)) := by
  have hlen : x.length = 5 + k + (if z then 1 else 0) := by rw [hx]; exact resp_len k z
  have h1 : (Txt.slice x none (some 3) != Str.ofString "257") = false := by rw [hx]; exact resp_s1 k z
  have h2 : (Txt.slice x (some 3) (some 5) != Str.ofString " \"") = false := by rw [hx]; exact resp_s2 k z
  have hxl : x.length ≤ 206 := by rw [hlen]; split <;> omega
  intro loose mean mg mb dp un gd cn cs a ccd cl outer A₀ base h₀ L m news s Q E hB hF hX hN hT hk hdp hun hret
  refine wpAny_call ?_
  k_dflt cell_enter
  w_strict (repeat' ((fail_if_success (with_reducible show wpAny _ _ (exec (Stmt.While _ _ _ _) _) _ _ _)); first | (k_unfold; (try dsimp only)) | walk1 | (dsimp only; walk1)))
  rename Fr _ _ _ _ => lF
  rename News _ _ _ _ => lN
  with_unfolding_all refine' ksw_while (σ := Int × Tok × Str × Tok) (fun _ => news) (fun c => [(Str.ofString "i", .int c.1 c.2.1), (Str.ofString "dirname", .str c.2.2.1 c.2.2.2)]) (fun _ => True) [Str.ofString "c"] (fun c => ParseInv k z c.1 c.2.2.1) (fun c => 1000 - c.1.toNat) (5, _, Str.ofString "", _) lF lN trivial ?kk ?kp ?_
  case kk => kst_all
  case kp => exact .inl ⟨0, by omega, by simp, (by decide +kernel : Str.ofString "" = row 0)⟩
  clear lF lN
  rintro ⟨i, ti, dn, td⟩ u h tk - hinv F N
  dsimp only [kstB] at hinv F N ⊢
  rcases hinv with ⟨j, hj, hi, hdn⟩ | ⟨he, hz, hi, hdn⟩
  · have hdl : dn.length ≤ 200 := by rw [hdn, row_len]; omega
    by_cases c1 : 2 * j + 2 ≤ k
    · have e0 : Txt.item x i = row 1 := by rw [hx]; exact resp_item_q (by omega) (by omega)
      have e1 : (Txt.item x i == Str.ofString "\"") = true := by rw [quote]; exact eq_true' e0
      have e2 : (Txt.item x (i + 1) != Str.ofString "\"") = false := by rw [quote, hx]; exact ne_false (resp_item_q (by omega) (by omega))
      have e3 : i + 1 < (x.length : Int) := by rw [hlen]; omega
      w_strict (repeat' ((fail_if_success (with_reducible show KswEnd _ _ _ _ _ _ _ _ _ _ _ _)); first | (k_unfold; (try dsimp only)) | walk1 | (dsimp only; walk1)))
      rename News _ _ _ _ => nE
      refine ksw_end ⟨_, _, _, _⟩ (by assumption) nE (by kst_in) trivial (by kst_all) (by ksw_same) ?_ ?_
      · exact .inl ⟨j + 1, by omega, by dsimp only; omega, by dsimp only; rw [e0, hdn, row_app]⟩
      · dsimp only; omega
    · by_cases c2 : 2 * j + 1 = k
      · have e0 : Txt.item x i = row 1 := by rw [hx]; exact resp_item_q (by omega) (by omega)
        have e1 : (Txt.item x i == Str.ofString "\"") = true := by rw [quote]; exact eq_true' e0
        have hres : half k z = dn := by
          unfold half
          rw [if_neg (by omega), hdn, row_eq_iff]; omega
        cases z with
        | true =>
          have e3 : i + 1 < (x.length : Int) := by rw [hlen]; simp; omega
          have e2 : (Txt.item x (i + 1) != Str.ofString "\"") = true := by rw [quote, hx, resp_item_z (by omega)]; exact ne_true z_ne_q
          w_strict (repeat' ((fail_if_success (with_reducible show Q _ _)); first | (k_unfold; (try dsimp only)) | walk1 | (dsimp only; walk1)))
          rw [← hres]
          exact hret _ _ _ (by assumption) (by assumption)
        | false =>
          have e3 : (x.length : Int) ≤ i + 1 := by rw [hlen]; simp; omega
          have e4 : i < (x.length : Int) := by rw [hlen]; simp; omega
          w_strict (repeat' ((fail_if_success (with_reducible show Q _ _)); first | (k_unfold; (try dsimp only)) | walk1 | (dsimp only; walk1)))
          rw [← hres]
          exact hret _ _ _ (by assumption) (by assumption)
      · have c3 : 2 * j = k := by omega
        cases z with
        | true =>
          have e0 : Txt.item x i = ⟨#[122]⟩ := by rw [hx]; exact resp_item_z (by omega)
          have e1 : (Txt.item x i == Str.ofString "\"") = false := by rw [quote, e0]; exact eq_false' z_ne_q
          have e4 : i < (x.length : Int) := by rw [hlen]; simp; omega
          w_strict (repeat' ((fail_if_success (with_reducible show KswEnd _ _ _ _ _ _ _ _ _ _ _ _)); first | (k_unfold; (try dsimp only)) | walk1 | (dsimp only; walk1)))
          rename News _ _ _ _ => nE
          refine ksw_end ⟨_, _, _, _⟩ (by assumption) nE (by kst_in) trivial (by kst_all) (by ksw_same) ?_ ?_
          · exact .inr ⟨by omega, rfl, by dsimp only; omega, by dsimp only; rw [e0, hdn, show k / 2 = j by omega]⟩
          · dsimp only; omega
        | false =>
          have e4 : (x.length : Int) ≤ i := by rw [hlen]; simp; omega
          have hres : half k false = dn := by
            unfold half
            rw [if_neg (by simp), hdn, row_eq_iff]; omega
          w_strict (repeat' ((fail_if_success (with_reducible show Q _ _)); first | (k_unfold; (try dsimp only)) | walk1 | (dsimp only; walk1)))
          rw [← hres]
          exact hret _ _ _ (by assumption) (by assumption)
  · have e4 : (x.length : Int) ≤ i := by rw [hlen, hz]; simp; omega
    have hres : half k z = dn := by
      unfold half
      rw [if_pos ⟨he, hz⟩, hdn]
    w_strict (repeat' ((fail_if_success (with_reducible show Q _ _)); first | (k_unfold; (try dsimp only)) | walk1 | (dsimp only; walk1)))
    rw [← hres]
    exact hret _ _ _ (by assumption) (by assumption)
end Mine
end
section
open PySem PySem.W PyProof.Rows PySem.Calls PySem.Spec
set_option maxRecDepth 100000
set_option maxHeartbeats 8000000
namespace Mine
theorem fill2 : (Challenge.rw_rs0089_01.prog, hd.heap_39) = (Challenge.rw_rs0089_01.prog, hd.heap_39) := by
  w_top off
  k_fill
  rfl
/-- _ellipsis_match without dots -/
theorem c_ell0 (w : World) (want got : Str) (t u : Tok) (h1 : want.length ≤ 200) (h2 : got.length ≤ 200) (hc : (Builtin.Str.occurrences want (Str.ofString "...") 0 want.length 1).isEmpty = true) : Says 5 w 21 [.str want t, .str got u] (RetBool (want == got)) := by
  intro loose mean mg mb dp un gd cn cs a ccd cl outer A₀ base h₀ L m news s Q E hB hF hX hN hT hk hdp hun hret
  refine wpAny_call ?_
  k_dflt cell_enter
  w_strict (repeat' ((fail_if_success (with_reducible show Q _ _)); first | (k_unfold; (try dsimp only)) | walk1 | (dsimp only; walk1)))
  exact hret _ _ (by assumption) (by assumption)
theorem of2 {l : List (Str × Tok)} {a b : Str} (h : l.map (fun x => x.fst) = [a, b]) : ∃ t u, l = [(a, t), (b, u)] := by
  match l, h with
  | [(_, t), (_, u)], rfl => exact ⟨t, u, rfl⟩
theorem of3 {l : List (Str × Tok)} {a b c : Str} (h : l.map (fun x => x.fst) = [a, b, c]) : ∃ t u v, l = [(a, t), (b, u), (c, v)] := by
  match l, h with
  | [(_, t), (_, u), (_, v)], rfl => exact ⟨t, u, v, rfl⟩
theorem of4 {l : List (Str × Tok)} {a b c d : Str} (h : l.map (fun x => x.fst) = [a, b, c, d]) : ∃ t u v v', l = [(a, t), (b, u), (c, v), (d, v')] := by
  match l, h with
  | [(_, t), (_, u), (_, v), (_, v')], rfl => exact ⟨t, u, v, v', rfl⟩
theorem apart_now {h₀ h : Heap} {L : Addr} {news : List (Addr × Obj)} (N : News h₀ L h news) : ∀ p ∈ news, p.1 ≠ h.objs.size := fun p hp => Nat.ne_of_lt (Heap.lt_size (N p hp).1)
theorem endB {h₀ h' : Heap} {L : Addr} {m : Str → Option Value} {news news' : List (Addr × Obj)} {s : Shared} {Q : Value → Shared → Prop} {tk' : Nat} {x y : Bool}
    (hret : ∀ (h' : Heap) (tk' : Nat), Fr h₀ L h' m → News h₀ L h' news → Q (.bool x) { s with heap := h', toks := tk' }) (e : x = y) (F : Fr h₀ L h' m) (N : News h₀ L h' news') (hs : ∀ p ∈ news, p ∈ news') : Q (.bool y) { s with heap := h', toks := tk' } := by
  subst e
  exact hret h' tk' F fun p hp => N p (hs p hp)
/-- _ellipsis_match by 2 parts, of a row with an x ahead -/
theorem reach0 (w : World) (want : Str) (l0  l3 one : Nat) (t u : Tok) (h1 : want.length ≤ 200) (b0 : l0 ≤ 40) (b3 : l3 ≤ 40) (b1 : one ≤ 40) (hc : (Builtin.Str.occurrences want (Str.ofString "...") 0 want.length 1).isEmpty = false)
   (hs : Txt.split want (Str.ofString "...") = [crow 120 l0, row l3]) : Says 5 w 21 [.str want t, .str (crow 120 one) u] (RetBool (decide (l0 + l3 ≤ one))) := by
  have e0 := crow_len 120 l0
  have e1 := crow_len 120 one
  have e3 := row_len l3
  have ht : (((crow 120 l0).length : Int) != 0) = true := by rw [e0]; simp; omega
  intro loose mean mg mb dp un gd cn cs a ccd cl outer A₀ base h₀ L m news s Q E hB hF hX hN hT hk hdp hun hret
  refine wpAny_call ?_
  k_dflt cell_enter
  w_strict (repeat' ((fail_if_success (with_reducible show wpAny _ _ (exec (Stmt.Assign [Expr.Name (Str.ofString "ws") _] _ _) _) _ _ _)); first | (k_unfold; (try dsimp only)) | walk1 | (dsimp only; walk1)))
  rename News _ _ _ _ => nN
  have hap := apart_now nN
  w_strict (repeat' ((fail_if_success (with_reducible show wpAny _ _ (exec (Stmt.Assert _ _ _) _) _ _ _)); first | (k_unfold; (try dsimp only)) | walk1 | (dsimp only; walk1)))
  rename (List.map _ _ = Txt.split _ _) => hl
  rw [hs] at hl
  obtain ⟨u0, u1, rfl⟩ := of2 hl
  dsimp only [strValues, List.map] at *
  w_strict (repeat' ((fail_if_success (with_reducible show Q _ _)); first
    | (k_unfold; (try dsimp only))
    | ((with_reducible show wpAny _ _ (delItem (Value.ref _) (Value.int _ _)) _ _ _); (first | (with_unfolding_all refine delItem_second (k := 0) (by assumption) (by assumption) (by k_ne) hap (by decide) (by rfl) ?_) | (with_unfolding_all refine delItem_second (k := 1) (by assumption) (by assumption) (by k_ne) hap (by decide) (by rfl) ?_) | (with_unfolding_all refine delItem_second (k := 2) (by assumption) (by assumption) (by k_ne) hap (by decide) (by rfl) ?_)); intro h9 F9 N9; (try simp only [List.eraseIdx_cons_zero, List.eraseIdx_cons_succ, List.eraseIdx_nil] at N9); (try dsimp only); (try k_sweep))
    | ((with_reducible show wpAny _ _ (exec (Stmt.For _ _ _ _ _) _) _ _ _); (rename Fr _ _ _ _ => lF); (with_unfolding_all refine' For_invVF lF ?k1 ?k2 ?_); (case k1 => exact rfl); (case k2 => exact rfl); k_whole)
    | ((with_reducible show wpAny _ _ (pyIter _) _ _ _); rename News _ _ _ _ => lN; (first
        | (with_unfolding_all refine iter_listUnr (vs := []) (by rfl) (by assumption) lN (List.Mem.tail _ (List.Mem.head _)) (by rfl) (by rfl) ?_)
        | (with_unfolding_all refine iter_listUnr (vs := [_]) (by rfl) (by assumption) lN (List.Mem.tail _ (List.Mem.head _)) (by rfl) (by rfl) ?_)
        | (with_unfolding_all refine iter_listUnr (vs := [_, _]) (by rfl) (by assumption) lN (List.Mem.tail _ (List.Mem.head _)) (by rfl) (by rfl) ?_)
        | (with_unfolding_all refine iter_listUnr (vs := [_, _, _]) (by rfl) (by assumption) lN (List.Mem.tail _ (List.Mem.head _)) (by rfl) (by rfl) ?_)); intro I hI)
    | ((with_reducible show UnrEnd _ _ _ _ _ _ _); rename News _ _ _ _ => nU; refine UnrEnd.intro (by assumption) nU _ (fun p hp => hp) (fun p hp => Nat.ne_of_lt (hI p hp)) ⟨by k_mem, ?_⟩)
    | ((with_reducible show wpAny _ _ (call (Value.builtin "str.find") [_, _, _, _]) _ _ _); (refine call_find4_row (by omega) (by omega) (by omega) ?_ ?_ <;> intro hfit))
    | walk1 | (dsimp only; walk1)))
  all_goals (rename News h₀ L _ _ => nE; refine endB hret ?_ (by assumption) nE (fun p hp => by first | exact List.Mem.tail _ (List.Mem.tail _ hp) | exact List.Mem.tail _ (List.Mem.tail _ (List.Mem.tail _ hp)) | exact hp))
  all_goals ((try (rename Txt.startswith _ _ = _ => hS; rw [starts_crow] at hS; simp only [decide_eq_true_eq, decide_eq_false_iff_not] at hS)); (try (rename Txt.endswith _ _ = _ => hE; rw [ends_crow (by omega)] at hE; simp only [decide_eq_true_eq, decide_eq_false_iff_not] at hE)); first | exact decide_eq_true (by omega) | exact decide_eq_false (by omega))
/-- the same of a row with a z ahead: no -/
theorem reachZ0 (w : World) (want : Str) (l0  l3 one : Nat) (t u : Tok) (h1 : want.length ≤ 200) (b0 : l0 ≤ 40) (b3 : l3 ≤ 40) (b1 : one ≤ 40) (hc : (Builtin.Str.occurrences want (Str.ofString "...") 0 want.length 1).isEmpty = false)
   (hs : Txt.split want (Str.ofString "...") = [crow 120 l0, row l3]) : Says 5 w 21 [.str want t, .str (crow 122 one) u] (RetBool false) := by
  have e0 := crow_len 120 l0
  have e1 := crow_len 122 one
  have e3 := row_len l3
  have ht : (((crow 120 l0).length : Int) != 0) = true := by rw [e0]; simp; omega
  have hst := starts_z l0 one
  intro loose mean mg mb dp un gd cn cs a ccd cl outer A₀ base h₀ L m news s Q E hB hF hX hN hT hk hdp hun hret
  refine wpAny_call ?_
  k_dflt cell_enter
  w_strict (repeat' ((fail_if_success (with_reducible show wpAny _ _ (exec (Stmt.Assign [Expr.Name (Str.ofString "ws") _] _ _) _) _ _ _)); first | (k_unfold; (try dsimp only)) | walk1 | (dsimp only; walk1)))
  rename News _ _ _ _ => nN
  have hap := apart_now nN
  w_strict (repeat' ((fail_if_success (with_reducible show wpAny _ _ (exec (Stmt.Assert _ _ _) _) _ _ _)); first | (k_unfold; (try dsimp only)) | walk1 | (dsimp only; walk1)))
  rename (List.map _ _ = Txt.split _ _) => hl
  rw [hs] at hl
  obtain ⟨u0, u1, rfl⟩ := of2 hl
  dsimp only [strValues, List.map] at *
  w_strict (repeat' ((fail_if_success (with_reducible show Q _ _)); first
    | (k_unfold; (try dsimp only))
    | ((with_reducible show wpAny _ _ (delItem (Value.ref _) (Value.int _ _)) _ _ _); (first | (with_unfolding_all refine delItem_second (k := 0) (by assumption) (by assumption) (by k_ne) hap (by decide) (by rfl) ?_) | (with_unfolding_all refine delItem_second (k := 1) (by assumption) (by assumption) (by k_ne) hap (by decide) (by rfl) ?_) | (with_unfolding_all refine delItem_second (k := 2) (by assumption) (by assumption) (by k_ne) hap (by decide) (by rfl) ?_)); intro h9 F9 N9; (try simp only [List.eraseIdx_cons_zero, List.eraseIdx_cons_succ, List.eraseIdx_nil] at N9); (try dsimp only); (try k_sweep))
    | ((with_reducible show wpAny _ _ (exec (Stmt.For _ _ _ _ _) _) _ _ _); (rename Fr _ _ _ _ => lF); (with_unfolding_all refine' For_invVF lF ?k1 ?k2 ?_); (case k1 => exact rfl); (case k2 => exact rfl); k_whole)
    | ((with_reducible show wpAny _ _ (pyIter _) _ _ _); rename News _ _ _ _ => lN; (first
        | (with_unfolding_all refine iter_listUnr (vs := []) (by rfl) (by assumption) lN (List.Mem.tail _ (List.Mem.head _)) (by rfl) (by rfl) ?_)
        | (with_unfolding_all refine iter_listUnr (vs := [_]) (by rfl) (by assumption) lN (List.Mem.tail _ (List.Mem.head _)) (by rfl) (by rfl) ?_)
        | (with_unfolding_all refine iter_listUnr (vs := [_, _]) (by rfl) (by assumption) lN (List.Mem.tail _ (List.Mem.head _)) (by rfl) (by rfl) ?_)
        | (with_unfolding_all refine iter_listUnr (vs := [_, _, _]) (by rfl) (by assumption) lN (List.Mem.tail _ (List.Mem.head _)) (by rfl) (by rfl) ?_)); intro I hI)
    | ((with_reducible show UnrEnd _ _ _ _ _ _ _); rename News _ _ _ _ => nU; refine UnrEnd.intro (by assumption) nU _ (fun p hp => hp) (fun p hp => Nat.ne_of_lt (hI p hp)) ⟨by k_mem, ?_⟩)
    | fail
    | walk1 | (dsimp only; walk1)))
  all_goals (rename News h₀ L _ _ => nE; refine endB hret ?_ (by assumption) nE (fun p hp => by first | exact List.Mem.tail _ (List.Mem.tail _ hp) | exact List.Mem.tail _ (List.Mem.tail _ (List.Mem.tail _ hp)) | exact hp))
  all_goals rfl
/-- _ellipsis_match by 3 parts, of a row with an x ahead -/
theorem reach1 (w : World) (want : Str) (l0 m0 l3 one : Nat) (t u : Tok) (h1 : want.length ≤ 200) (b0 : l0 ≤ 40) (b3 : l3 ≤ 40) (b1 : one ≤ 40) (cm0 : m0 ≤ 40) (hc : (Builtin.Str.occurrences want (Str.ofString "...") 0 want.length 1).isEmpty = false)
   (hs : Txt.split want (Str.ofString "...") = [crow 120 l0, row m0, row l3]) : Says 5 w 21 [.str want t, .str (crow 120 one) u] (RetBool (decide (l0 + m0 + l3 ≤ one))) := by
  have e0 := crow_len 120 l0
  have e1 := crow_len 120 one
  have e3 := row_len l3
  have fm0 := row_len m0
  have ht : (((crow 120 l0).length : Int) != 0) = true := by rw [e0]; simp; omega
  intro loose mean mg mb dp un gd cn cs a ccd cl outer A₀ base h₀ L m news s Q E hB hF hX hN hT hk hdp hun hret
  refine wpAny_call ?_
  k_dflt cell_enter
  w_strict (repeat' ((fail_if_success (with_reducible show wpAny _ _ (exec (Stmt.Assign [Expr.Name (Str.ofString "ws") _] _ _) _) _ _ _)); first | (k_unfold; (try dsimp only)) | walk1 | (dsimp only; walk1)))
  rename News _ _ _ _ => nN
  have hap := apart_now nN
  w_strict (repeat' ((fail_if_success (with_reducible show wpAny _ _ (exec (Stmt.Assert _ _ _) _) _ _ _)); first | (k_unfold; (try dsimp only)) | walk1 | (dsimp only; walk1)))
  rename (List.map _ _ = Txt.split _ _) => hl
  rw [hs] at hl
  obtain ⟨u0, u1, u2, rfl⟩ := of3 hl
  dsimp only [strValues, List.map] at *
  w_strict (repeat' ((fail_if_success (with_reducible show Q _ _)); first
    | (k_unfold; (try dsimp only))
    | ((with_reducible show wpAny _ _ (delItem (Value.ref _) (Value.int _ _)) _ _ _); (first | (with_unfolding_all refine delItem_second (k := 0) (by assumption) (by assumption) (by k_ne) hap (by decide) (by rfl) ?_) | (with_unfolding_all refine delItem_second (k := 1) (by assumption) (by assumption) (by k_ne) hap (by decide) (by rfl) ?_) | (with_unfolding_all refine delItem_second (k := 2) (by assumption) (by assumption) (by k_ne) hap (by decide) (by rfl) ?_)); intro h9 F9 N9; (try simp only [List.eraseIdx_cons_zero, List.eraseIdx_cons_succ, List.eraseIdx_nil] at N9); (try dsimp only); (try k_sweep))
    | ((with_reducible show wpAny _ _ (exec (Stmt.For _ _ _ _ _) _) _ _ _); (rename Fr _ _ _ _ => lF); (with_unfolding_all refine' For_invVF lF ?k1 ?k2 ?_); (case k1 => exact rfl); (case k2 => exact rfl); k_whole)
    | ((with_reducible show wpAny _ _ (pyIter _) _ _ _); rename News _ _ _ _ => lN; (first
        | (with_unfolding_all refine iter_listUnr (vs := []) (by rfl) (by assumption) lN (List.Mem.tail _ (List.Mem.head _)) (by rfl) (by rfl) ?_)
        | (with_unfolding_all refine iter_listUnr (vs := [_]) (by rfl) (by assumption) lN (List.Mem.tail _ (List.Mem.head _)) (by rfl) (by rfl) ?_)
        | (with_unfolding_all refine iter_listUnr (vs := [_, _]) (by rfl) (by assumption) lN (List.Mem.tail _ (List.Mem.head _)) (by rfl) (by rfl) ?_)
        | (with_unfolding_all refine iter_listUnr (vs := [_, _, _]) (by rfl) (by assumption) lN (List.Mem.tail _ (List.Mem.head _)) (by rfl) (by rfl) ?_)); intro I hI)
    | ((with_reducible show UnrEnd _ _ _ _ _ _ _); rename News _ _ _ _ => nU; refine UnrEnd.intro (by assumption) nU _ (fun p hp => hp) (fun p hp => Nat.ne_of_lt (hI p hp)) ⟨by k_mem, ?_⟩)
    | ((with_reducible show wpAny _ _ (call (Value.builtin "str.find") [_, _, _, _]) _ _ _); (refine call_find4_row (by omega) (by omega) (by omega) ?_ ?_ <;> intro hfit))
    | walk1 | (dsimp only; walk1)))
  all_goals (rename News h₀ L _ _ => nE; refine endB hret ?_ (by assumption) nE (fun p hp => by first | exact List.Mem.tail _ (List.Mem.tail _ hp) | exact List.Mem.tail _ (List.Mem.tail _ (List.Mem.tail _ hp)) | exact hp))
  all_goals ((try (rename Txt.startswith _ _ = _ => hS; rw [starts_crow] at hS; simp only [decide_eq_true_eq, decide_eq_false_iff_not] at hS)); (try (rename Txt.endswith _ _ = _ => hE; rw [ends_crow (by omega)] at hE; simp only [decide_eq_true_eq, decide_eq_false_iff_not] at hE)); first | exact decide_eq_true (by omega) | exact decide_eq_false (by omega))
/-- the same of a row with a z ahead: no -/
theorem reachZ1 (w : World) (want : Str) (l0 m0 l3 one : Nat) (t u : Tok) (h1 : want.length ≤ 200) (b0 : l0 ≤ 40) (b3 : l3 ≤ 40) (b1 : one ≤ 40) (cm0 : m0 ≤ 40) (hc : (Builtin.Str.occurrences want (Str.ofString "...") 0 want.length 1).isEmpty = false)
   (hs : Txt.split want (Str.ofString "...") = [crow 120 l0, row m0, row l3]) : Says 5 w 21 [.str want t, .str (crow 122 one) u] (RetBool false) := by
  have e0 := crow_len 120 l0
  have e1 := crow_len 122 one
  have e3 := row_len l3
  have fm0 := row_len m0
  have ht : (((crow 120 l0).length : Int) != 0) = true := by rw [e0]; simp; omega
  have hst := starts_z l0 one
  intro loose mean mg mb dp un gd cn cs a ccd cl outer A₀ base h₀ L m news s Q E hB hF hX hN hT hk hdp hun hret
  refine wpAny_call ?_
  k_dflt cell_enter
  w_strict (repeat' ((fail_if_success (with_reducible show wpAny _ _ (exec (Stmt.Assign [Expr.Name (Str.ofString "ws") _] _ _) _) _ _ _)); first | (k_unfold; (try dsimp only)) | walk1 | (dsimp only; walk1)))
  rename News _ _ _ _ => nN
  have hap := apart_now nN
  w_strict (repeat' ((fail_if_success (with_reducible show wpAny _ _ (exec (Stmt.Assert _ _ _) _) _ _ _)); first | (k_unfold; (try dsimp only)) | walk1 | (dsimp only; walk1)))
  rename (List.map _ _ = Txt.split _ _) => hl
  rw [hs] at hl
  obtain ⟨u0, u1, u2, rfl⟩ := of3 hl
  dsimp only [strValues, List.map] at *
  w_strict (repeat' ((fail_if_success (with_reducible show Q _ _)); first
    | (k_unfold; (try dsimp only))
    | ((with_reducible show wpAny _ _ (delItem (Value.ref _) (Value.int _ _)) _ _ _); (first | (with_unfolding_all refine delItem_second (k := 0) (by assumption) (by assumption) (by k_ne) hap (by decide) (by rfl) ?_) | (with_unfolding_all refine delItem_second (k := 1) (by assumption) (by assumption) (by k_ne) hap (by decide) (by rfl) ?_) | (with_unfolding_all refine delItem_second (k := 2) (by assumption) (by assumption) (by k_ne) hap (by decide) (by rfl) ?_)); intro h9 F9 N9; (try simp only [List.eraseIdx_cons_zero, List.eraseIdx_cons_succ, List.eraseIdx_nil] at N9); (try dsimp only); (try k_sweep))
    | ((with_reducible show wpAny _ _ (exec (Stmt.For _ _ _ _ _) _) _ _ _); (rename Fr _ _ _ _ => lF); (with_unfolding_all refine' For_invVF lF ?k1 ?k2 ?_); (case k1 => exact rfl); (case k2 => exact rfl); k_whole)
    | ((with_reducible show wpAny _ _ (pyIter _) _ _ _); rename News _ _ _ _ => lN; (first
        | (with_unfolding_all refine iter_listUnr (vs := []) (by rfl) (by assumption) lN (List.Mem.tail _ (List.Mem.head _)) (by rfl) (by rfl) ?_)
        | (with_unfolding_all refine iter_listUnr (vs := [_]) (by rfl) (by assumption) lN (List.Mem.tail _ (List.Mem.head _)) (by rfl) (by rfl) ?_)
        | (with_unfolding_all refine iter_listUnr (vs := [_, _]) (by rfl) (by assumption) lN (List.Mem.tail _ (List.Mem.head _)) (by rfl) (by rfl) ?_)
        | (with_unfolding_all refine iter_listUnr (vs := [_, _, _]) (by rfl) (by assumption) lN (List.Mem.tail _ (List.Mem.head _)) (by rfl) (by rfl) ?_)); intro I hI)
    | ((with_reducible show UnrEnd _ _ _ _ _ _ _); rename News _ _ _ _ => nU; refine UnrEnd.intro (by assumption) nU _ (fun p hp => hp) (fun p hp => Nat.ne_of_lt (hI p hp)) ⟨by k_mem, ?_⟩)
    | fail
    | walk1 | (dsimp only; walk1)))
  all_goals (rename News h₀ L _ _ => nE; refine endB hret ?_ (by assumption) nE (fun p hp => by first | exact List.Mem.tail _ (List.Mem.tail _ hp) | exact List.Mem.tail _ (List.Mem.tail _ (List.Mem.tail _ hp)) | exact hp))
  all_goals rfl
/-- _ellipsis_match by 4 parts, of a row with an x ahead -/
theorem reach2 (w : World) (want : Str) (l0 m0 m1 l3 one : Nat) (t u : Tok) (h1 : want.length ≤ 200) (b0 : l0 ≤ 40) (b3 : l3 ≤ 40) (b1 : one ≤ 40) (cm0 : m0 ≤ 40) (cm1 : m1 ≤ 40) (hc : (Builtin.Str.occurrences want (Str.ofString "...") 0 want.length 1).isEmpty = false)
   (hs : Txt.split want (Str.ofString "...") = [crow 120 l0, row m0, row m1, row l3]) : Says 5 w 21 [.str want t, .str (crow 120 one) u] (RetBool (decide (l0 + m0 + m1 + l3 ≤ one))) := by
  have e0 := crow_len 120 l0
  have e1 := crow_len 120 one
  have e3 := row_len l3
  have fm0 := row_len m0
  have fm1 := row_len m1
  have ht : (((crow 120 l0).length : Int) != 0) = true := by rw [e0]; simp; omega
  intro loose mean mg mb dp un gd cn cs a ccd cl outer A₀ base h₀ L m news s Q E hB hF hX hN hT hk hdp hun hret
  refine wpAny_call ?_
  k_dflt cell_enter
  w_strict (repeat' ((fail_if_success (with_reducible show wpAny _ _ (exec (Stmt.Assign [Expr.Name (Str.ofString "ws") _] _ _) _) _ _ _)); first | (k_unfold; (try dsimp only)) | walk1 | (dsimp only; walk1)))
  rename News _ _ _ _ => nN
  have hap := apart_now nN
  w_strict (repeat' ((fail_if_success (with_reducible show wpAny _ _ (exec (Stmt.Assert _ _ _) _) _ _ _)); first | (k_unfold; (try dsimp only)) | walk1 | (dsimp only; walk1)))
  rename (List.map _ _ = Txt.split _ _) => hl
  rw [hs] at hl
  obtain ⟨u0, u1, u2, u3, rfl⟩ := of4 hl
  dsimp only [strValues, List.map] at *
  w_strict (repeat' ((fail_if_success (with_reducible show Q _ _)); first
    | (k_unfold; (try dsimp only))
    | ((with_reducible show wpAny _ _ (delItem (Value.ref _) (Value.int _ _)) _ _ _); (first | (with_unfolding_all refine delItem_second (k := 0) (by assumption) (by assumption) (by k_ne) hap (by decide) (by rfl) ?_) | (with_unfolding_all refine delItem_second (k := 1) (by assumption) (by assumption) (by k_ne) hap (by decide) (by rfl) ?_) | (with_unfolding_all refine delItem_second (k := 2) (by assumption) (by assumption) (by k_ne) hap (by decide) (by rfl) ?_)); intro h9 F9 N9; (try simp only [List.eraseIdx_cons_zero, List.eraseIdx_cons_succ, List.eraseIdx_nil] at N9); (try dsimp only); (try k_sweep))
    | ((with_reducible show wpAny _ _ (exec (Stmt.For _ _ _ _ _) _) _ _ _); (rename Fr _ _ _ _ => lF); (with_unfolding_all refine' For_invVF lF ?k1 ?k2 ?_); (case k1 => exact rfl); (case k2 => exact rfl); k_whole)
    | ((with_reducible show wpAny _ _ (pyIter _) _ _ _); rename News _ _ _ _ => lN; (first
        | (with_unfolding_all refine iter_listUnr (vs := []) (by rfl) (by assumption) lN (List.Mem.tail _ (List.Mem.head _)) (by rfl) (by rfl) ?_)
        | (with_unfolding_all refine iter_listUnr (vs := [_]) (by rfl) (by assumption) lN (List.Mem.tail _ (List.Mem.head _)) (by rfl) (by rfl) ?_)
        | (with_unfolding_all refine iter_listUnr (vs := [_, _]) (by rfl) (by assumption) lN (List.Mem.tail _ (List.Mem.head _)) (by rfl) (by rfl) ?_)
        | (with_unfolding_all refine iter_listUnr (vs := [_, _, _]) (by rfl) (by assumption) lN (List.Mem.tail _ (List.Mem.head _)) (by rfl) (by rfl) ?_)); intro I hI)
    | ((with_reducible show UnrEnd _ _ _ _ _ _ _); rename News _ _ _ _ => nU; refine UnrEnd.intro (by assumption) nU _ (fun p hp => hp) (fun p hp => Nat.ne_of_lt (hI p hp)) ⟨by k_mem, ?_⟩)
    | ((with_reducible show wpAny _ _ (call (Value.builtin "str.find") [_, _, _, _]) _ _ _); (refine call_find4_row (by omega) (by omega) (by omega) ?_ ?_ <;> intro hfit))
    | walk1 | (dsimp only; walk1)))
  all_goals (rename News h₀ L _ _ => nE; refine endB hret ?_ (by assumption) nE (fun p hp => by first | exact List.Mem.tail _ (List.Mem.tail _ hp) | exact List.Mem.tail _ (List.Mem.tail _ (List.Mem.tail _ hp)) | exact hp))
  all_goals ((try (rename Txt.startswith _ _ = _ => hS; rw [starts_crow] at hS; simp only [decide_eq_true_eq, decide_eq_false_iff_not] at hS)); (try (rename Txt.endswith _ _ = _ => hE; rw [ends_crow (by omega)] at hE; simp only [decide_eq_true_eq, decide_eq_false_iff_not] at hE)); first | exact decide_eq_true (by omega) | exact decide_eq_false (by omega))
/-- the same of a row with a z ahead: no -/
theorem reachZ2 (w : World) (want : Str) (l0 m0 m1 l3 one : Nat) (t u : Tok) (h1 : want.length ≤ 200) (b0 : l0 ≤ 40) (b3 : l3 ≤ 40) (b1 : one ≤ 40) (cm0 : m0 ≤ 40) (cm1 : m1 ≤ 40) (hc : (Builtin.Str.occurrences want (Str.ofString "...") 0 want.length 1).isEmpty = false)
   (hs : Txt.split want (Str.ofString "...") = [crow 120 l0, row m0, row m1, row l3]) : Says 5 w 21 [.str want t, .str (crow 122 one) u] (RetBool false) := by
  have e0 := crow_len 120 l0
  have e1 := crow_len 122 one
  have e3 := row_len l3
  have fm0 := row_len m0
  have fm1 := row_len m1
  have ht : (((crow 120 l0).length : Int) != 0) = true := by rw [e0]; simp; omega
  have hst := starts_z l0 one
  intro loose mean mg mb dp un gd cn cs a ccd cl outer A₀ base h₀ L m news s Q E hB hF hX hN hT hk hdp hun hret
  refine wpAny_call ?_
  k_dflt cell_enter
  w_strict (repeat' ((fail_if_success (with_reducible show wpAny _ _ (exec (Stmt.Assign [Expr.Name (Str.ofString "ws") _] _ _) _) _ _ _)); first | (k_unfold; (try dsimp only)) | walk1 | (dsimp only; walk1)))
  rename News _ _ _ _ => nN
  have hap := apart_now nN
  w_strict (repeat' ((fail_if_success (with_reducible show wpAny _ _ (exec (Stmt.Assert _ _ _) _) _ _ _)); first | (k_unfold; (try dsimp only)) | walk1 | (dsimp only; walk1)))
  rename (List.map _ _ = Txt.split _ _) => hl
  rw [hs] at hl
  obtain ⟨u0, u1, u2, u3, rfl⟩ := of4 hl
  dsimp only [strValues, List.map] at *
  w_strict (repeat' ((fail_if_success (with_reducible show Q _ _)); first
    | (k_unfold; (try dsimp only))
    | ((with_reducible show wpAny _ _ (delItem (Value.ref _) (Value.int _ _)) _ _ _); (first | (with_unfolding_all refine delItem_second (k := 0) (by assumption) (by assumption) (by k_ne) hap (by decide) (by rfl) ?_) | (with_unfolding_all refine delItem_second (k := 1) (by assumption) (by assumption) (by k_ne) hap (by decide) (by rfl) ?_) | (with_unfolding_all refine delItem_second (k := 2) (by assumption) (by assumption) (by k_ne) hap (by decide) (by rfl) ?_)); intro h9 F9 N9; (try simp only [List.eraseIdx_cons_zero, List.eraseIdx_cons_succ, List.eraseIdx_nil] at N9); (try dsimp only); (try k_sweep))
    | ((with_reducible show wpAny _ _ (exec (Stmt.For _ _ _ _ _) _) _ _ _); (rename Fr _ _ _ _ => lF); (with_unfolding_all refine' For_invVF lF ?k1 ?k2 ?_); (case k1 => exact rfl); (case k2 => exact rfl); k_whole)
    | ((with_reducible show wpAny _ _ (pyIter _) _ _ _); rename News _ _ _ _ => lN; (first
        | (with_unfolding_all refine iter_listUnr (vs := []) (by rfl) (by assumption) lN (List.Mem.tail _ (List.Mem.head _)) (by rfl) (by rfl) ?_)
        | (with_unfolding_all refine iter_listUnr (vs := [_]) (by rfl) (by assumption) lN (List.Mem.tail _ (List.Mem.head _)) (by rfl) (by rfl) ?_)
        | (with_unfolding_all refine iter_listUnr (vs := [_, _]) (by rfl) (by assumption) lN (List.Mem.tail _ (List.Mem.head _)) (by rfl) (by rfl) ?_)
        | (with_unfolding_all refine iter_listUnr (vs := [_, _, _]) (by rfl) (by assumption) lN (List.Mem.tail _ (List.Mem.head _)) (by rfl) (by rfl) ?_)); intro I hI)
    | ((with_reducible show UnrEnd _ _ _ _ _ _ _); rename News _ _ _ _ => nU; refine UnrEnd.intro (by assumption) nU _ (fun p hp => hp) (fun p hp => Nat.ne_of_lt (hI p hp)) ⟨by k_mem, ?_⟩)
    | fail
    | walk1 | (dsimp only; walk1)))
  all_goals (rename News h₀ L _ _ => nE; refine endB hret ?_ (by assumption) nE (fun p hp => by first | exact List.Mem.tail _ (List.Mem.tail _ hp) | exact List.Mem.tail _ (List.Mem.tail _ (List.Mem.tail _ hp)) | exact hp))
  all_goals rfl
theorem split_z : Txt.split (Str.ofString "...z") (Str.ofString "...") = [row 0, crow 122 0] ∧ (Builtin.Str.occurrences (Str.ofString "...z") (Str.ofString "...") 0 (Str.ofString "...z").length 1).isEmpty = false := by decide +kernel
/-- _ellipsis_match by three dots and z -/
theorem c_ellz (w : World) (want got : Str) (hw : want = Str.ofString "...z") (t u : Tok) (h2 : got.length ≤ 200) : Says 5 w 21 [.str want t, .str got u] (RetBool (Txt.endswith got (crow 122 0))) := by
  have hs : Txt.split want (Str.ofString "...") = [row 0, crow 122 0] := by rw [hw]; exact split_z.1
  have hc : (Builtin.Str.occurrences want (Str.ofString "...") 0 want.length 1).isEmpty = false := by rw [hw]; exact split_z.2
  have hwl : want.length = 4 := by rw [hw]; decide +kernel
  clear hw
  have e0 := row_len 0
  have e1 := crow_len 122 0
  have ht : (((row 0).length : Int) != 0) = false := by decide
  have ht1 : (((crow 122 0).length : Int) != 0) = true := by decide
  have hle : Txt.endswith got (crow 122 0) = true → 1 ≤ got.length := by
    unfold Txt.endswith; intro h; rw [Bool.and_eq_true] at h; have := of_decide_eq_true h.1; rw [e1] at this; omega
  by_cases hE : Txt.endswith got (crow 122 0) = true
  · have hgl := hle hE
    rw [hE]
    intro loose mean mg mb dp un gd cn cs a ccd cl outer A₀ base h₀ L m news s Q E hB hF hX hN hT hk hdp hun hret
    refine wpAny_call ?_
    k_dflt cell_enter
    w_strict (repeat' ((fail_if_success (with_reducible show wpAny _ _ (exec (Stmt.Assign [Expr.Name (Str.ofString "ws") _] _ _) _) _ _ _)); first | (k_unfold; (try dsimp only)) | walk1 | (dsimp only; walk1)))
    rename News _ _ _ _ => nN
    have hap := apart_now nN
    w_strict (repeat' ((fail_if_success (with_reducible show wpAny _ _ (exec (Stmt.Assert _ _ _) _) _ _ _)); first | (k_unfold; (try dsimp only)) | walk1 | (dsimp only; walk1)))
    rename (List.map _ _ = Txt.split _ _) => hl
    rw [hs] at hl
    obtain ⟨u0, u1, rfl⟩ := of2 hl
    dsimp only [strValues, List.map] at *
    w_strict (repeat' ((fail_if_success (with_reducible show Q _ _)); first
      | (k_unfold; (try dsimp only))
      | ((with_reducible show wpAny _ _ (delItem (Value.ref _) (Value.int _ _)) _ _ _); (first | (with_unfolding_all refine delItem_second (k := 0) (by assumption) (by assumption) (by k_ne) hap (by decide) (by rfl) ?_) | (with_unfolding_all refine delItem_second (k := 1) (by assumption) (by assumption) (by k_ne) hap (by decide) (by rfl) ?_) | (with_unfolding_all refine delItem_second (k := 2) (by assumption) (by assumption) (by k_ne) hap (by decide) (by rfl) ?_)); intro h9 F9 N9; (try simp only [List.eraseIdx_cons_zero, List.eraseIdx_cons_succ, List.eraseIdx_nil] at N9); (try dsimp only); (try k_sweep))
      | ((with_reducible show wpAny _ _ (exec (Stmt.For _ _ _ _ _) _) _ _ _); (rename Fr _ _ _ _ => lF); (with_unfolding_all refine' For_invVF lF ?k1 ?k2 ?_); (case k1 => exact rfl); (case k2 => exact rfl); k_whole)
      | ((with_reducible show wpAny _ _ (pyIter _) _ _ _); rename News _ _ _ _ => lN; (first
          | (with_unfolding_all refine iter_listUnr (vs := []) (by rfl) (by assumption) lN (List.Mem.tail _ (List.Mem.head _)) (by rfl) (by rfl) ?_)
          | (with_unfolding_all refine iter_listUnr (vs := [_]) (by rfl) (by assumption) lN (List.Mem.tail _ (List.Mem.head _)) (by rfl) (by rfl) ?_)
          | (with_unfolding_all refine iter_listUnr (vs := [_, _]) (by rfl) (by assumption) lN (List.Mem.tail _ (List.Mem.head _)) (by rfl) (by rfl) ?_)
          | (with_unfolding_all refine iter_listUnr (vs := [_, _, _]) (by rfl) (by assumption) lN (List.Mem.tail _ (List.Mem.head _)) (by rfl) (by rfl) ?_)); intro I hI)
      | ((with_reducible show UnrEnd _ _ _ _ _ _ _); rename News _ _ _ _ => nU; refine UnrEnd.intro (by assumption) nU _ (fun p hp => hp) (fun p hp => Nat.ne_of_lt (hI p hp)) ⟨by k_mem, ?_⟩)
      | ((with_reducible show wpAny _ _ (call (Value.builtin "str.find") [_, _, _, _]) _ _ _); (refine call_find4 ?_; rw [find4_empty_z (by omega)]))
      | walk1 | (dsimp only; walk1)))
    all_goals (rename News h₀ L _ _ => nE; refine endB hret ?_ (by assumption) nE (fun p hp => by first | exact List.Mem.tail _ (List.Mem.tail _ hp) | exact List.Mem.tail _ (List.Mem.tail _ (List.Mem.tail _ hp)) | exact hp))
    all_goals first | rfl | (rename Txt.endswith _ _ = _ => hW; rw [hE] at hW; cases hW)
  · have hE := eq_false_of_ne_true hE
    rw [hE]
    intro loose mean mg mb dp un gd cn cs a ccd cl outer A₀ base h₀ L m news s Q E hB hF hX hN hT hk hdp hun hret
    refine wpAny_call ?_
    k_dflt cell_enter
    w_strict (repeat' ((fail_if_success (with_reducible show wpAny _ _ (exec (Stmt.Assign [Expr.Name (Str.ofString "ws") _] _ _) _) _ _ _)); first | (k_unfold; (try dsimp only)) | walk1 | (dsimp only; walk1)))
    rename News _ _ _ _ => nN
    have hap := apart_now nN
    w_strict (repeat' ((fail_if_success (with_reducible show wpAny _ _ (exec (Stmt.Assert _ _ _) _) _ _ _)); first | (k_unfold; (try dsimp only)) | walk1 | (dsimp only; walk1)))
    rename (List.map _ _ = Txt.split _ _) => hl
    rw [hs] at hl
    obtain ⟨u0, u1, rfl⟩ := of2 hl
    dsimp only [strValues, List.map] at *
    w_strict (repeat' ((fail_if_success (with_reducible show Q _ _)); first
      | (k_unfold; (try dsimp only))
      | ((with_reducible show wpAny _ _ (delItem (Value.ref _) (Value.int _ _)) _ _ _); (first | (with_unfolding_all refine delItem_second (k := 0) (by assumption) (by assumption) (by k_ne) hap (by decide) (by rfl) ?_) | (with_unfolding_all refine delItem_second (k := 1) (by assumption) (by assumption) (by k_ne) hap (by decide) (by rfl) ?_) | (with_unfolding_all refine delItem_second (k := 2) (by assumption) (by assumption) (by k_ne) hap (by decide) (by rfl) ?_)); intro h9 F9 N9; (try simp only [List.eraseIdx_cons_zero, List.eraseIdx_cons_succ, List.eraseIdx_nil] at N9); (try dsimp only); (try k_sweep))
      | ((with_reducible show wpAny _ _ (exec (Stmt.For _ _ _ _ _) _) _ _ _); (rename Fr _ _ _ _ => lF); (with_unfolding_all refine' For_invVF lF ?k1 ?k2 ?_); (case k1 => exact rfl); (case k2 => exact rfl); k_whole)
      | ((with_reducible show wpAny _ _ (pyIter _) _ _ _); rename News _ _ _ _ => lN; (first
          | (with_unfolding_all refine iter_listUnr (vs := []) (by rfl) (by assumption) lN (List.Mem.tail _ (List.Mem.head _)) (by rfl) (by rfl) ?_)
          | (with_unfolding_all refine iter_listUnr (vs := [_]) (by rfl) (by assumption) lN (List.Mem.tail _ (List.Mem.head _)) (by rfl) (by rfl) ?_)
          | (with_unfolding_all refine iter_listUnr (vs := [_, _]) (by rfl) (by assumption) lN (List.Mem.tail _ (List.Mem.head _)) (by rfl) (by rfl) ?_)
          | (with_unfolding_all refine iter_listUnr (vs := [_, _, _]) (by rfl) (by assumption) lN (List.Mem.tail _ (List.Mem.head _)) (by rfl) (by rfl) ?_)); intro I hI)
      | ((with_reducible show UnrEnd _ _ _ _ _ _ _); rename News _ _ _ _ => nU; refine UnrEnd.intro (by assumption) nU _ (fun p hp => hp) (fun p hp => Nat.ne_of_lt (hI p hp)) ⟨by k_mem, ?_⟩)
      | ((with_reducible show wpAny _ _ (call (Value.builtin "str.find") [_, _, _, _]) _ _ _); (refine call_find4 ?_; rw [find4_empty_z (by omega)]))
      | walk1 | (dsimp only; walk1)))
    all_goals (rename News h₀ L _ _ => nE; refine endB hret ?_ (by assumption) nE (fun p hp => by first | exact List.Mem.tail _ (List.Mem.tail _ hp) | exact List.Mem.tail _ (List.Mem.tail _ (List.Mem.tail _ hp)) | exact hp))
    all_goals first | rfl | (rename Txt.endswith _ _ = _ => hW; rw [hE] at hW; cases hW)
end Mine
end
section
open PySem PySem.W PyProof.Rows PySem.Calls PySem.Spec
set_option maxRecDepth 100000
set_option maxHeartbeats 8000000
namespace Mine
theorem fill3 : (Challenge.rw_rs0089_01.prog, hd.heap_39) = (Challenge.rw_rs0089_01.prog, hd.heap_39) := by
  w_top off
  k_fill
  rfl
/-- what a substitution costs -/
theorem c_sub (w : World) (x y : Str) (cx cy : Nat) (hx : x = ⟨#[cx]⟩) (hy : y = ⟨#[cy]⟩) (mx : cx ∈ lsigns) (my : cy ∈ lsigns) (t u : Tok) : Says 5 w 60 [.str x t, .str y u] (RetInt (cost cx cy)) := by
  have h1 : x.length = 1 := by rw [hx]; rfl
  have h2 : y.length = 1 := by rw [hy]; rfl
  have e1 : (x == y) = decide (cx = cy) := by rw [hx, hy]; exact one_eq _ _
  have e2 : (Txt.lower x == Txt.lower y) = decide (low cx = low cy) := by rw [hx, hy, lower_is _ mx, lower_is _ my]; exact one_eq _ _
  intro loose mean mg mb dp un gd cn cs a ccd cl outer A₀ base h₀ L m news s Q E hB hF hX hN hT hk hdp hun hret
  refine wpAny_call ?_
  k_dflt cell_enter
  w_strict (repeat' ((fail_if_success (with_reducible show Q _ _)); first | (k_unfold; (try dsimp only)) | walk1 | (dsimp only; walk1)))
  · rename (x == y) = true => hq
    rw [e1] at hq
    rw [show (0 : Int) = cost cx cy by unfold cost; rw [if_pos (of_decide_eq_true hq)]]
    exact hret _ _ _ (by assumption) (by assumption)
  · rename (x == y) = false => hq
    rename (Txt.lower x == Txt.lower y) = true => hq2
    rw [e1] at hq
    rw [e2] at hq2
    rw [show (1 : Int) = cost cx cy by unfold cost; rw [if_neg (of_decide_eq_false hq), if_pos (of_decide_eq_true hq2)]]
    exact hret _ _ _ (by assumption) (by assumption)
  · rename (x == y) = false => hq
    rename (Txt.lower x == Txt.lower y) = false => hq2
    rw [e1] at hq
    rw [e2] at hq2
    rw [show (2 : Int) = cost cx cy by unfold cost; rw [if_neg (of_decide_eq_false hq), if_neg (of_decide_eq_false hq2)]]
    exact hret _ _ _ (by assumption) (by assumption)

theorem small2_n : ∀ n ≤ 60, Builtin.Range.small 2 (2 * (((n : Nat) : Int) + 1)) 2 = true := by decide +kernel
theorem size2_n : ∀ n ≤ 60, Builtin.Range.rangeSize 2 (2 * (((n : Nat) : Int) + 1)) 2 = ((n : Nat) : Int) := by decide +kernel
/-- what the loops ask of the two texts -/
def LevAB (d : Nat) (X Y : Str) : Prop := ∃ (al bl : List Nat) (na nb : Nat), al.length = na ∧ bl.length = nb ∧ X.length = na ∧ Y.length = nb ∧ 1 ≤ na ∧ na ≤ 5 ∧ nb ≤ 40 ∧ nb ≤ na + d + 1 ∧
  (∀ {k : Int}, 0 ≤ k → k < (X.length : Int) → Txt.item X k = ⟨#[al.getD k.toNat 0]⟩) ∧ (∀ {k : Int}, 0 ≤ k → k < (Y.length : Int) → Txt.item Y k = ⟨#[bl.getD k.toNat 0]⟩) ∧
  (∀ {k : Int}, 0 ≤ k → k < (X.length : Int) → al.getD k.toNat 0 ∈ lsigns) ∧ (∀ {k : Int}, 0 ≤ k → k < (Y.length : Int) → bl.getD k.toNat 0 ∈ lsigns) ∧
  (outerN al bl nb).2 = 2 * (d : Int) + 6 ∧ ∀ k < nb, minAt al bl k ≤ 2 * (d : Int) + 6
theorem lev_zero {c : Nat} (hc : c < 3) : LevAB 0 (lx 0) (ly c 0) :=
  ⟨xl, hdl c, 4, 5, rfl, hdl_len c, lx_len 0, ly_len c 0, by decide, by decide, by decide, by decide, lx0_item, ly_item, xl_mem, hdl_mem, lev0 c hc, lev0min c hc⟩
theorem lev_big {c d : Nat} (hc : c < 3) (hd : d ≤ 35) : LevAB d (ly c 0) (lx d) :=
  ⟨hdl c, xl ++ List.replicate d 34, 5, d + 4, hdl_len c, by simp [xl], ly_len c 0, lx_len d, by decide, by decide, by omega, by omega, ly_item, lx_item, hdl_mem, xlr_mem, levbig hc (by omega), fun k hk => mins_are hc hk (by omega)⟩
section
variable {prog : Program} {w : World} {A : Around} {E : Value → Shared → Prop} {Q : Flow → Shared → Prop} {s : Shared} {env : Env} {h₀ : Heap} {L : Addr}
/-- the ways of one statement meet again -/
theorem ksw_join {σ : Type} {st : Stmt} {m₀ : Str → Option Value} (Led : σ → List (Addr × Obj)) (ps : σ → List (Str × Value)) (stored : List Str) (C : σ → Prop) (_F : Fr h₀ L s.heap m₀)
    (first : ∀ Q2 : Flow → Shared → Prop, (∀ (c : σ) (u : Str → Option Value) h tk, C c → Fr h₀ L h (kstB (fun z => if stored.contains z then u z else m₀ z) (ps c)) → News h₀ L h (Led c) → Q2 .next { s with heap := h, toks := tk }) → wpAny (model prog w) A (exec st env) Q2 E s)
    (go : ∀ (c : σ) (u : Str → Option Value) h tk, C c → Fr h₀ L h (kstB (fun z => if stored.contains z then u z else m₀ z) (ps c)) → News h₀ L h (Led c) → Q .next { s with heap := h, toks := tk }) :
    wpAny (model prog w) A (exec st env) Q E s := first Q go
end

theorem sw_zero (c : Nat) : ¬ (((ly c 0).length : Int) < ((lx 0).length : Int)) := by rw [lx_len, ly_len]; decide
theorem sw_big {c d : Nat} (h0 : ¬ d = 0) (h1 : d ≠ 1) : (((ly c 0).length : Int) < ((lx d).length : Int)) := by rw [lx_len, ly_len]; omega
theorem lx_some (d : Nat) : (((lx d).length : Int) != 0) = true := by rw [lx_len]; simp; omega
theorem ly_some (c d : Nat) : (((ly c d).length : Int) != 0) = true := by rw [ly_len]; simp; omega
theorem lx_room {d : Nat} (h : d ≤ 35) : ¬ (40 : Int) < ((lx d).length : Int) := by rw [lx_len]; omega
theorem ly_room (c : Nat) : ¬ (40 : Int) < ((ly c 0).length : Int) := by rw [ly_len]; decide
theorem lx_cut_some {k : Nat} {p : Int} (h0 : p < 0) (h1 : -(k : Int) ≤ p) : (((Txt.slice (lx k) none (some p)).length : Int) != 0) = true := by rw [lx_cut_len h0 h1]; simp; omega
theorem ly_cut_some {c k : Nat} {p : Int} (h0 : p < 0) (h1 : -(k : Int) ≤ p) : (((Txt.slice (ly c k) none (some p)).length : Int) != 0) = true := by rw [ly_cut_len h0 h1]; simp; omega
theorem mono_p {o d : Nat} {p : Int} (h : -(o : Int) ≤ p) : -((o + d : Nat) : Int) ≤ p := by omega
theorem st_zero {o : Nat} (h : 3 ≤ o) : -(o : Int) ≤ 0 - 1 := by omega
theorem st_zero2 {o : Nat} (h : 3 ≤ o) : ((0 : Int) - 1 + o).toNat < ((0 : Int) + o).toNat := by omega
theorem st_next {o : Nat} {p : Int} (h : -(o : Int) ≤ p) (h2 : ¬ p = -(o : Int)) : -(o : Int) ≤ p - 1 := by omega
theorem st_next2 {o : Nat} {p : Int} (h : -(o : Int) ≤ p) (h2 : ¬ p = -(o : Int)) : (p - 1 + o).toNat < (p + o).toNat := by omega
theorem st_le {p : Int} (h : p ≤ 0) : p - 1 ≤ 0 := by omega
theorem st_lt {p : Int} (h : p < 0) : p - 1 < 0 := by omega
theorem st_neg {p : Int} (h : p ≤ 0) (h2 : ¬ p = 0) : p < 0 := by omega
theorem kge {k : Int} {n : Nat} (h : k = 0 + (n : Int)) : 0 ≤ k := by omega
theorem klt {k : Int} {n b x : Nat} (h : k = 0 + (n : Int)) (h2 : n < b) (hx : x = b) : k < (x : Int) := by omega
theorem keq {k : Int} {n : Nat} (h : k = 0 + (n : Int)) : k = (n : Int) := by omega
theorem knat {k : Int} {n : Nat} (h : k = 0 + (n : Int)) : k.toNat = n := by omega
theorem r2_eq (res g dc : Int) : (if dc < (if g < res then g else res) + 2 then dc else (if g < res then g else res) + 2) = min (min res g + 2) dc := by (repeat' split) <;> omega
theorem mi_le {mx mi v : Int} {o d : Nat} (h2 : 3 ≤ o) (hm : mx = 2 * ((o + d : Nat) : Int)) (h : mi = v) (hv : v ≤ 2 * (d : Int) + 6) : ¬ mx < mi := by omega
/-- the distance of the two texts -/
theorem c_lev (w : World) (other d c : Nat) (t u v : Tok) (mx : Int) (h2 : 3 ≤ other) (h3 : other + d ≤ 35) (hc : c < 3) (hd1 : d ≠ 1) (hmx : mx = 2 * (other + d : Nat)) : Says 10 w 67 [.str (lx (other + d)) t, .str (ly c other) u, .int mx v] (RetInt (2 * d + 6)) := by
  have lx1 := lx_len (other + d)
  have ly1 := ly_len c other
  have h1 : other ≤ other + d := Nat.le_add_right _ _
  have h11 : 1 ≤ other := Nat.le_trans (by decide) h2
  have hd35 : d ≤ 35 := Nat.le_trans (Nat.le_add_left _ _) h3
  have hne := lx_ne_ly c (other + d) other
  have sx0 := slice_zero (lx (other + d))
  have sy0 := slice_zero (ly c other)
  have px0 : (((Txt.slice (lx (other + d)) (some 0) none).length : Int) != 0) = true := by rw [sx0]; exact lx_some _
  have py0 : (((Txt.slice (ly c other) (some 0) none).length : Int) != 0) = true := by rw [sy0]; exact ly_some _ _
  have hfd := first_differ c (other + d) other
  intro loose mean mg mb dp un gd cn cs a ccd cl outer A₀ base h₀ L m news s Q E hB hF hX hN hT hk hdp hun hret
  refine wpAny_call ?_
  k_dflt cell_enter
  w_strict (repeat' ((fail_if_success (with_reducible show wpAny _ _ (exec (Stmt.While _ _ _ _) _) _ _ _)); first | (k_unfold; (try dsimp only)) | walk1 | (dsimp only; walk1)))
  rename Fr _ _ _ _ => lF
  rename News _ _ _ _ => lN
  with_unfolding_all refine' ksw_while (σ := Tok) (fun _ => news) (fun c => [(Str.ofString "pre", .int 0 c)]) (fun _ => True) [] (fun _ => True) (fun c => 0) _ lF lN trivial ?kk ?kp ?_
  case kk => kst_all
  case kp => trivial
  clear lF lN
  rintro tp u h tk - - F N
  dsimp only [kstB] at F N ⊢
  w_strict (repeat' ((fail_if_success (with_reducible show wpAny _ _ (exec (Stmt.While _ _ _ _) _) _ _ _)); first | (k_unfold; (try dsimp only)) | walk1 | (dsimp only; walk1)))
  rename Fr _ _ _ _ => lF
  rename News _ _ _ _ => lN
  rw [sx0, sy0] at lF
  clear px0 py0 hfd hne
  have px0 : (((Txt.slice (lx (other + d)) none none).length : Int) != 0) = true := by rw [slice_full]; exact lx_some _
  have py0 : (((Txt.slice (ly c other) none none).length : Int) != 0) = true := by rw [slice_full]; exact ly_some _ _
  with_unfolding_all refine' ksw_while (σ := Int × Tok) (fun _ => news) (fun c => [(Str.ofString "post", .int c.1 c.2)]) (fun _ => True) [] (fun c => -(other : Int) ≤ c.1 ∧ c.1 ≤ 0) (fun c => (c.1 + other).toNat) (0, _) lF lN trivial ?kk ?kp ?_
  case kk => kst_all
  case kp => exact ⟨Int.neg_nonpos_of_nonneg (Int.natCast_nonneg _), Int.le_refl _⟩
  clear lF lN
  rintro ⟨p, tp2⟩ u2 h' tk' - ⟨hp1, hp2⟩ F N
  dsimp only [kstB] at F N hp1 hp2 ⊢
  by_cases hp0 : p = 0
  · subst hp0
    have hal : (Txt.item (lx (other + d)) (0 - 1) == Txt.item (ly c other) (0 - 1)) = true := ends_alike h1 (by decide) (st_zero h2)
    w_strict (repeat' ((fail_if_success (with_reducible show KswEnd _ _ _ _ _ _ _ _ _ _ _ _)); (fail_if_success (with_reducible show Q _ _)); (fail_if_success (with_reducible show wpAny _ _ (exec (Stmt.If (Expr.BoolOp _ _ _) _ _ _) _) _ _ _)); first
      | (k_unfold; (try dsimp only))
      | ((with_reducible show wpAny _ _ (subscriptTail _ (Expr.Slice none (some (Expr.BoolOp _ _ _)) none _) (Value.str _ _) (Value.ref _)) _ _ _); (first | (refine slice_strN_nn_len (s := ⟨_, _, _, _, _⟩) (by assumption) (by assumption) ?_; intro _ _ _ _ _ _) | (refine slice_strN_ns_len (s := ⟨_, _, _, _, _⟩) (by assumption) (by assumption) ?_; intro _ _ _ _ _ _)))
      | walk1 | (dsimp only; walk1)))
    rename News _ _ _ _ => nE
    refine ksw_end ⟨_, _⟩ (by assumption) nE (by kst_in) trivial (by kst_all) (by ksw_same) ?_ ?_
    · exact ⟨st_zero h2, st_le (Int.le_refl 0)⟩
    · exact st_zero2 h2
  · have hpn : p < 0 := st_neg hp2 hp0
    have hpz : (p != 0) = true := by simpa using hp0
    have cx := lx_cut_len (k := other + d) hpn (mono_p hp1)
    have cy := ly_cut_len (c := c) (k := other) hpn hp1
    have px : (((Txt.slice (lx (other + d)) none (some p)).length : Int) != 0) = true := lx_cut_some hpn (mono_p hp1)
    have py : (((Txt.slice (ly c other) none (some p)).length : Int) != 0) = true := ly_cut_some hpn hp1
    by_cases hpe : p = -(other : Int)
    · have hal : (Txt.item (lx (other + d)) (p - 1) == Txt.item (ly c other) (p - 1)) = false := ends_differ h1 (by rw [hpe])
      have ex := lx_cut h11 h1 hpe
      rw [Nat.add_sub_cancel_left] at ex
      have ey := ly_cut (c := c) h11 hpe
      w_strict (repeat' ((fail_if_success (with_reducible show KswEnd _ _ _ _ _ _ _ _ _ _ _ _)); (fail_if_success (with_reducible show Q _ _)); (fail_if_success (with_reducible show wpAny _ _ (exec (Stmt.If (Expr.BoolOp _ _ _) _ _ _) _) _ _ _)); first
        | (k_unfold; (try dsimp only))
        | ((with_reducible show wpAny _ _ (subscriptTail _ (Expr.Slice none (some (Expr.BoolOp _ _ _)) none _) (Value.str _ _) (Value.ref _)) _ _ _); (first | (refine slice_strN_nn_len (s := ⟨_, _, _, _, _⟩) (by assumption) (by assumption) ?_; intro _ _ _ _ _ _) | (refine slice_strN_ns_len (s := ⟨_, _, _, _, _⟩) (by assumption) (by assumption) ?_; intro _ _ _ _ _ _)))
        | walk1 | (dsimp only; walk1)))
      rename Fr _ _ _ _ => lF
      rename News _ _ _ _ => lN
      rw [ex, ey] at lF
      clear ex ey cx cy px py hal px0 py0 hpz hp0 hpn hpe
      have lA := lx_len d
      have lB := ly_len c 0
      have tA : (((lx d).length : Int) != 0) = true := lx_some d
      have tB : (((ly c 0).length : Int) != 0) = true := ly_some c 0
      have gA : ¬ (40 : Int) < ((lx d).length : Int) := lx_room hd35
      have gB : ¬ (40 : Int) < ((ly c 0).length : Int) := ly_room c
      w_strict (repeat' ((fail_if_success (with_reducible show wpAny _ _ (exec (Stmt.If (Expr.Compare _ _ _ _) [Stmt.Assign _ _ _] _ _) _) _ _ _)); (fail_if_success (with_reducible show Q _ _)); first | (k_unfold; (try dsimp only)) | walk1 | (dsimp only; walk1)))
      rename Fr _ _ _ _ => lF
      with_unfolding_all refine' ksw_join (σ := Str × Str × Tok × Tok) (fun _ => news) (fun st => [(Str.ofString "a", .str st.1 st.2.2.1), (Str.ofString "b", .str st.2.1 st.2.2.2)]) [] (fun st => LevAB d st.1 st.2.1) lF ?first ?go
      case first =>
        clear hret
        intro Q2 hQ2
        by_cases hd0 : d = 0
        · subst hd0
          have sw := sw_zero c
          w_strict (repeat' ((fail_if_success (with_reducible show Q2 _ _)); first | (k_unfold; (try dsimp only)) | walk1 | (dsimp only; walk1)))
          rename News _ _ _ _ => nE
          exact hQ2 (lx 0, ly c 0, _, _) _ _ _ (lev_zero hc) (by refine ksw_fr ?_ ?_ (by assumption); kst_all; ksw_same) nE
        · have sw := sw_big (c := c) hd0 hd1
          w_strict (repeat' ((fail_if_success (with_reducible show Q2 _ _)); first | (k_unfold; (try dsimp only)) | walk1 | (dsimp only; walk1)))
          rename News _ _ _ _ => nE
          exact hQ2 (ly c 0, lx d, _, _) _ _ _ (lev_big hc hd35) (by refine ksw_fr ?_ ?_ (by assumption); kst_all; ksw_same) (fun p hp => nE p (List.mem_cons_of_mem _ hp))
      case go =>
        clear lF lA lB tA tB gA gB
        rintro ⟨X, Y, tX, tY⟩ u9 h9 tk9 ⟨al, bl, na, nb, hal, hbl, lX, lY, hna1, hna5, hnb, hnn, iX, iY, mX, mY, hfin, hmin⟩ F N
        dsimp only [kstB] at lX lY iX iY mX mY F N ⊢
        have hna60 : na ≤ 60 := Nat.le_trans hna5 (by decide)
        have hnb60 : nb ≤ 60 := Nat.le_trans hnb (by decide)
        repeat (with_reducible rename _ ∧ _ => hz; clear hz)
        clear lx1 ly1 sx0 sy0 h1 h11 hp1 hp2
        w_strict (repeat' ((fail_if_success (with_reducible show Q _ _)); (fail_if_success (with_reducible show wpAny _ _ (exec (Stmt.For _ _ _ _ _) _) _ _ _)); (fail_if_success (with_reducible show wpAny _ _ (pyIter _) _ _ _)); (fail_if_success (with_reducible show wpAny _ _ (call (Value.type "list") _) _ _ _)); (fail_if_success (with_reducible show wpAny _ _ (call (Value.ref 60) _) _ _ _)); (fail_if_success (with_reducible show wpAny _ _ (setItem _ _ _) _ _ _)); (fail_if_success (with_reducible show InvEndN _ _ _ _ _ _ _)); first | (k_unfold; (try dsimp only)) | walk1 | (dsimp only; walk1)))
        rename IsRange _ _ _ _ _ _ _ _ => hR
        refine list_range2 (n := na) rfl (by assumption) (by assumption) hR (by rw [lX]; exact small2_n _ hna60) (by rw [lX]; exact size2_n _ hna60) (Nat.le_trans hna5 (by decide)) ?_
        clear hR
        intro D us cnt h4 tk4 F4 N4 hlt4 hI4
        have hap : ∀ p ∈ news, p.1 ≠ D := fun p hp => Nat.ne_of_lt (hlt4 p hp)
        clear hlt4
        w_strict (repeat' ((fail_if_success (with_reducible show Q _ _)); (fail_if_success (with_reducible show wpAny _ _ (exec (Stmt.For _ _ _ _ _) _) _ _ _)); (fail_if_success (with_reducible show wpAny _ _ (pyIter _) _ _ _)); (fail_if_success (with_reducible show wpAny _ _ (call (Value.type "list") _) _ _ _)); (fail_if_success (with_reducible show wpAny _ _ (call (Value.ref 60) _) _ _ _)); (fail_if_success (with_reducible show wpAny _ _ (setItem _ _ _) _ _ _)); (fail_if_success (with_reducible show InvEndN _ _ _ _ _ _ _)); first | (k_unfold; (try dsimp only)) | walk1 | (dsimp only; walk1)))
        (rename Fr _ _ _ _ => lF); (with_unfolding_all refine' For_invVF lF ?k1 ?k2 ?_); (case k1 => exact rfl); (case k2 => exact rfl); k_whole
        w_strict (repeat' ((fail_if_success (with_reducible show Q _ _)); (fail_if_success (with_reducible show wpAny _ _ (exec (Stmt.For _ _ _ _ _) _) _ _ _)); (fail_if_success (with_reducible show wpAny _ _ (pyIter _) _ _ _)); (fail_if_success (with_reducible show wpAny _ _ (call (Value.type "list") _) _ _ _)); (fail_if_success (with_reducible show wpAny _ _ (call (Value.ref 60) _) _ _ _)); (fail_if_success (with_reducible show wpAny _ _ (setItem _ _ _) _ _ _)); (fail_if_success (with_reducible show InvEndN _ _ _ _ _ _ _)); first | (k_unfold; (try dsimp only)) | walk1 | (dsimp only; walk1)))
        rename IsRange _ _ _ _ _ _ _ _ => hR
        rename IntsAre us _ => hI4
        rename News _ _ _ _ => lN
        rename Fr _ _ _ _ => lF
        with_unfolding_all refine' kst_range (σ := List Value × List Int × Nat × Int × Tok) (n := nb) (fun st => (D, listOf st.1.toArray st.2.2.1) :: news) (fun st => [(Str.ofString "result", .int st.2.2.2.1 st.2.2.2.2)]) (fun st => IntsAre st.1 st.2.1) [Str.ofString "bchar", Str.ofString "distance", Str.ofString "minimum", Str.ofString "index", Str.ofString "substitute", Str.ofString "insert_delete"] (fun pre st => (st.2.1, st.2.2.2.1) = outerN (al) (bl) pre.length) (us, _, cnt, 0, _) rfl hR ?hs ?hn lF lN hI4 ?hk ?hp ?turn ?done
        case hs => rw [lY]; exact small_n _ hnb60
        case hn => rw [lY]; exact size_n _ hnb60
        case hk => kst_all
        case hp => (show _ = outerN _ _ 0; rw [outerN, hal]; rfl)
        case done =>
          clear lF lN hR
          rintro ⟨vs, ns, cn5, res, tr⟩ u5 h5 tkk5 hI5 hP F N
          dsimp only [kstB] at hI5 hP F N ⊢
          have hres : res = 2 * (d : Int) + 6 := by
            have := congrArg Prod.snd hP
            rw [rangeKs_length] at this
            exact this.trans hfin
          w_strict (repeat' ((fail_if_success (with_reducible show Q _ _)); (fail_if_success (with_reducible show wpAny _ _ (exec (Stmt.For _ _ _ _ _) _) _ _ _)); (fail_if_success (with_reducible show wpAny _ _ (pyIter _) _ _ _)); (fail_if_success (with_reducible show wpAny _ _ (call (Value.type "list") _) _ _ _)); (fail_if_success (with_reducible show wpAny _ _ (call (Value.ref 60) _) _ _ _)); (fail_if_success (with_reducible show wpAny _ _ (setItem _ _ _) _ _ _)); (fail_if_success (with_reducible show InvEndN _ _ _ _ _ _ _)); first | (k_unfold; (try dsimp only)) | walk1 | (dsimp only; walk1)))
          rename News h₀ L _ _ => nE
          rw [hres]
          exact hret _ _ _ (by assumption) fun p hp => nE p (by simp [hp])
        case turn =>
          clear lF lN hR
          rintro ⟨vs, ns, cn5, res, tr⟩ pre k tk5 u5 h5 tkk5 own hk5 hlt5 hoff hI5 hP F N
          dsimp only [kstB, List.cons_append] at hI5 hP F N ⊢
          have hap5 : ∀ p ∈ news ++ own, p.1 ≠ D := fun p hp => by
            rcases List.mem_append.mp hp with hp | hp
            · exact hap p hp
            · exact hoff p hp D (List.mem_cons_self ..)
          have hns : ns.length = na := by
            have := congrArg (fun st => st.1.length) hP
            exact this.trans ((outerN_len _ _ _).trans hal)
          have hk0 : 0 ≤ k := kge hk5
          have hkb : k < ((Y).length : Int) := klt hk5 hlt5 lY
          w_strict (repeat' ((fail_if_success (with_reducible show Q _ _)); (fail_if_success (with_reducible show wpAny _ _ (exec (Stmt.For _ _ _ _ _) _) _ _ _)); (fail_if_success (with_reducible show wpAny _ _ (pyIter _) _ _ _)); (fail_if_success (with_reducible show wpAny _ _ (call (Value.type "list") _) _ _ _)); (fail_if_success (with_reducible show wpAny _ _ (call (Value.ref 60) _) _ _ _)); (fail_if_success (with_reducible show wpAny _ _ (setItem _ _ _) _ _ _)); (fail_if_success (with_reducible show InvEndN _ _ _ _ _ _ _)); first | (k_unfold; (try dsimp only)) | walk1 | (dsimp only; walk1)))
          (rename Fr _ _ _ _ => lF); (with_unfolding_all refine' For_invVF lF ?k1 ?k2 ?_); (case k1 => exact rfl); (case k2 => exact rfl); k_whole
          w_strict (repeat' ((fail_if_success (with_reducible show Q _ _)); (fail_if_success (with_reducible show wpAny _ _ (exec (Stmt.For _ _ _ _ _) _) _ _ _)); (fail_if_success (with_reducible show wpAny _ _ (pyIter _) _ _ _)); (fail_if_success (with_reducible show wpAny _ _ (call (Value.type "list") _) _ _ _)); (fail_if_success (with_reducible show wpAny _ _ (call (Value.ref 60) _) _ _ _)); (fail_if_success (with_reducible show wpAny _ _ (setItem _ _ _) _ _ _)); (fail_if_success (with_reducible show InvEndN _ _ _ _ _ _ _)); first | (k_unfold; (try dsimp only)) | walk1 | (dsimp only; walk1)))
          rename IsRange _ _ _ _ _ _ _ _ => hR
          rename IntsAre vs _ => hI5
          rename News _ _ _ _ => lN
          rename Fr _ _ _ _ => lF
          with_unfolding_all refine' kst_range (σ := List Value × List Int × Nat × Int × Tok × Int × Tok × Int × Tok) (n := na) (fun st => (D, listOf st.1.toArray st.2.2.1) :: (news ++ own)) (fun st => [(Str.ofString "result", .int st.2.2.2.1 st.2.2.2.2.1), (Str.ofString "distance", .int st.2.2.2.2.2.1 st.2.2.2.2.2.2.1), (Str.ofString "minimum", .int st.2.2.2.2.2.2.2.1 st.2.2.2.2.2.2.2.2)]) (fun st => IntsAre st.1 st.2.1) [Str.ofString "substitute", Str.ofString "insert_delete"] (fun pre2 st => (st.2.1, st.2.2.2.1, st.2.2.2.2.2.1, st.2.2.2.2.2.2.2.1) = innerN ((bl).getD k.toNat 0) (al) (ns, k * 2, k * 2, 9223372036854775807) pre2.length) (vs, ns, cn5, k * 2, _, k * 2, _, 9223372036854775807, _) rfl hR ?hs ?hn lF lN hI5 ?hk ?hp ?turn ?done
          case hs => rw [lX]; exact small_n _ hna60
          case hn => rw [lX]; exact size_n _ hna60
          case hk => kst_all
          case hp => rfl
          case done =>
            clear lF lN hR
            rintro ⟨vs6, ns6, cn6, res6, tr6, di6, td6, mi6, tm6⟩ u6 h6 tkk6 hI6 hP6 F N
            dsimp only [kstB] at hI6 hP6 F N ⊢
            rw [rangeKs_length] at hP6
            have hon := outer_next hal.symm hP (keq hk5) hP6
            have hmi : ¬ mx < mi6 := by
              exact mi_le h2 hmx hon.2 (hmin pre.length hlt5)
            w_strict (repeat' ((fail_if_success (with_reducible show Q _ _)); (fail_if_success (with_reducible show wpAny _ _ (exec (Stmt.For _ _ _ _ _) _) _ _ _)); (fail_if_success (with_reducible show wpAny _ _ (pyIter _) _ _ _)); (fail_if_success (with_reducible show wpAny _ _ (call (Value.type "list") _) _ _ _)); (fail_if_success (with_reducible show wpAny _ _ (call (Value.ref 60) _) _ _ _)); (fail_if_success (with_reducible show wpAny _ _ (setItem _ _ _) _ _ _)); (fail_if_success (with_reducible show InvEndN _ _ _ _ _ _ _)); first | (k_unfold; (try dsimp only)) | walk1 | (dsimp only; walk1)))
            rename IntsAre vs6 _ => hI6
            rename News _ _ _ _ => nE
            refine kst_end ⟨_, _, _, _, _⟩ (by assumption) nE (by exact fun p hp => by rcases List.mem_cons.mp hp with rfl | hp; exact List.mem_cons_self ..; exact List.mem_cons_of_mem _ (List.mem_append_left own hp)) (by exact fun p hp => List.mem_cons_of_mem _ (List.mem_append_right _ hp)) (by rfl) (by exact hI6) (by kst_all) (by kst_same) ?_
            dsimp only
            rw [List.length_append]
            exact hon.1
          case turn =>
            clear lF lN hR
            rintro ⟨vs6, ns6, cn6, res6, tr6, di6, td6, mi6, tm6⟩ pre6 k6 tk6 u6 h6 tkk6 own6 hk6 hlt6 hoff6 hI6 hP6 F N
            dsimp only [kstB, List.cons_append] at hI6 hP6 F N ⊢
            have hap6 : ∀ p ∈ (news ++ own) ++ own6, p.1 ≠ D := fun p hp => by
              rcases List.mem_append.mp hp with hp | hp
              · exact hap5 p hp
              · exact hoff6 p hp D (List.mem_cons_self ..)
            have hns6 : ns6.length = na := by
              have := congrArg (fun st => st.1.length) hP6
              exact this.trans ((innerN_len _ _ _ _).trans hns)
            have hk60 : 0 ≤ k6 := kge hk6
            have hkb6 : k6 < ((X).length : Int) := klt hk6 hlt6 lX
            have hkb7 : k6 < (ns6.length : Int) := klt hk6 hlt6 hns6
            have hn24 : ns6.length ≤ 2 ^ 24 := hns6 ▸ Nat.le_trans hna60 (by decide)
            w_strict (repeat' ((fail_if_success (with_reducible show Q _ _)); (fail_if_success (with_reducible show wpAny _ _ (exec (Stmt.For _ _ _ _ _) _) _ _ _)); (fail_if_success (with_reducible show wpAny _ _ (pyIter _) _ _ _)); (fail_if_success (with_reducible show wpAny _ _ (call (Value.type "list") _) _ _ _)); (fail_if_success (with_reducible show wpAny _ _ (call (Value.ref 60) _) _ _ _)); (fail_if_success (with_reducible show wpAny _ _ (setItem _ _ _) _ _ _)); (fail_if_success (with_reducible show InvEndN _ _ _ _ _ _ _)); first | (k_unfold; (try dsimp only)) | walk1 | (dsimp only; walk1)))
            k_dflt (refine' Says.use (c_sub w _ _ _ _ (iY hk0 hkb) (iX hk60 hkb6) (mY hk0 hkb) (mX hk60 hkb6) _ _) ?q1 ?q2 ?q3 ?q4 ?q5 ?qK ?qd ?qu ?qR)
            case q1 => k_asm
            case q2 => k_asm
            case q3 => k_asm
            case q4 => k_asm
            case q5 => k_asm
            case qK => exact rfl
            case qd => ktr_room
            case qu => ktr_units
            case qR =>
              intro t7 h7 tk7 F7 N7
              dsimp only
              (try k_fold)
              w_strict (repeat' ((fail_if_success (with_reducible show Q _ _)); (fail_if_success (with_reducible show wpAny _ _ (exec (Stmt.For _ _ _ _ _) _) _ _ _)); (fail_if_success (with_reducible show wpAny _ _ (pyIter _) _ _ _)); (fail_if_success (with_reducible show wpAny _ _ (call (Value.type "list") _) _ _ _)); (fail_if_success (with_reducible show wpAny _ _ (call (Value.ref 60) _) _ _ _)); (fail_if_success (with_reducible show wpAny _ _ (setItem _ _ _) _ _ _)); (fail_if_success (with_reducible show InvEndN _ _ _ _ _ _ _)); first | (k_unfold; (try dsimp only)) | walk1 | (dsimp only; walk1)))
              rename Fr _ _ _ _ => lF
              rename News _ _ _ _ => lN
              rename IntsAre vs6 _ => hI6
              k_dflt (refine' ksa_set lF lN (Upd.head hap6) hI6 hk60 hkb7 (by first | exact hn24 | omega) ?_)
              intro h8 F8 N8 hI8 hl8 hs8
              clear lF lN
              dsimp only
              w_strict (repeat' ((fail_if_success (with_reducible show Q _ _)); (fail_if_success (with_reducible show wpAny _ _ (exec (Stmt.For _ _ _ _ _) _) _ _ _)); (fail_if_success (with_reducible show wpAny _ _ (pyIter _) _ _ _)); (fail_if_success (with_reducible show wpAny _ _ (call (Value.type "list") _) _ _ _)); (fail_if_success (with_reducible show wpAny _ _ (call (Value.ref 60) _) _ _ _)); (fail_if_success (with_reducible show wpAny _ _ (setItem _ _ _) _ _ _)); (fail_if_success (with_reducible show InvEndN _ _ _ _ _ _ _)); first | (k_unfold; (try dsimp only)) | walk1 | (dsimp only; walk1)))
              all_goals (
                rename IntsAre (List.set vs6 _ _) _ => hI8
                rename News _ _ _ _ => nE
                refine kst_end ⟨_, _, _, _, _, _, _, _, _⟩ (by assumption) nE (by exact fun p hp => List.mem_append_left own6 hp) (by exact fun p hp => List.mem_cons_of_mem _ (List.mem_append_right _ hp)) (by rfl) (by exact hI8) (by kst_all) (by kst_same) ?_
                dsimp only
                rw [List.length_append]
                exact inner_next hP6 (knat hk6) rfl (by first | exact r2_eq _ _ _ | ((repeat' split) <;> omega)) (by first | rfl | exact (if_pos (by assumption)).symm | exact (if_neg (by assumption)).symm))
    · have hal : (Txt.item (lx (other + d)) (p - 1) == Txt.item (ly c other) (p - 1)) = true := ends_alike h1 (st_lt hpn) (st_next hp1 hpe)
      w_strict (repeat' ((fail_if_success (with_reducible show KswEnd _ _ _ _ _ _ _ _ _ _ _ _)); (fail_if_success (with_reducible show Q _ _)); (fail_if_success (with_reducible show wpAny _ _ (exec (Stmt.If (Expr.BoolOp _ _ _) _ _ _) _) _ _ _)); first
        | (k_unfold; (try dsimp only))
        | ((with_reducible show wpAny _ _ (subscriptTail _ (Expr.Slice none (some (Expr.BoolOp _ _ _)) none _) (Value.str _ _) (Value.ref _)) _ _ _); (first | (refine slice_strN_nn_len (s := ⟨_, _, _, _, _⟩) (by assumption) (by assumption) ?_; intro _ _ _ _ _ _) | (refine slice_strN_ns_len (s := ⟨_, _, _, _, _⟩) (by assumption) (by assumption) ?_; intro _ _ _ _ _ _)))
        | walk1 | (dsimp only; walk1)))
      rename News _ _ _ _ => nE
      refine ksw_end ⟨_, _⟩ (by assumption) nE (by kst_in) trivial (by kst_all) (by ksw_same) ?_ ?_
      · exact ⟨st_next hp1 hpe, st_le hp2⟩
      · exact st_next2 hp1 hpe
end Mine
end
section
open PySem PySem.W PyProof.Rows PySem.Calls PySem.Spec
set_option maxRecDepth 100000
set_option maxHeartbeats 8000000
namespace Mine
theorem fill4 : (Challenge.rw_rs0089_01.prog, hd.heap_39) = (Challenge.rw_rs0089_01.prog, hd.heap_39) := by
  w_top off
  k_fill
  rfl
/-- a row halved: the half and the rest -/
theorem c_halved (w : World) (k : Nat) (hk40 : k ≤ 40) (t : Tok) : Says 10 w 74 [.str (row k) t] (RetTup fun xs => ∃ t1 t2, xs = [.str (row (k / 2)) t1, .int ((k % 2 : Nat) : Int) t2]) := by
  have hl := row_len k
  have hh := half_len k true
  intro loose mean mg mb dp un gd cn cs a ccd cl outer A₀ base h₀ L m news s Q E hB hF hX hN hT hk hdp hun hret
  refine wpAny_call ?_
  k_dflt cell_enter
  w_strict (repeat' ((fail_if_success (with_reducible show Q _ _)); (fail_if_success (with_reducible show wpAny _ _ (call (Value.ref 53) _) _ _ _)); (fail_if_success (with_reducible show wpAny _ _ (call (Value.ref 21) _) _ _ _)); first | (k_unfold; (try dsimp only)) | walk1 | (dsimp only; walk1)))
  (k_dflt (refine' Says.use (c_parse w k true (by omega) _ (resp_eq1 k) _) ?qab1 ?qab2 ?qab3 ?qab4 ?qab5 ?qabK ?qabd ?qabu ?qabR); (case qab1 => k_asm); (case qab2 => k_asm); (case qab3 => k_asm); (case qab4 => k_asm); (case qab5 => k_asm); (case qabK => exact rfl); (case qabd => ktr_room); (case qabu => ktr_units))
  intro t7 h7 tk7 F7 N7
  dsimp only
  (try k_fold)
  by_cases hpar : k % 2 = 0
  · have e1 := ends_even hpar
    w_strict (repeat' ((fail_if_success (with_reducible show Q _ _)); (fail_if_success (with_reducible show wpAny _ _ (call (Value.ref 53) _) _ _ _)); (fail_if_success (with_reducible show wpAny _ _ (call (Value.ref 21) _) _ _ _)); first | (k_unfold; (try dsimp only)) | walk1 | (dsimp only; walk1)))
    (k_dflt (refine' Says.use (c_ellz w _ _ rfl _ _ (by omega)) ?qac1 ?qac2 ?qac3 ?qac4 ?qac5 ?qacK ?qacd ?qacu ?qacR); (case qac1 => k_asm); (case qac2 => k_asm); (case qac3 => k_asm); (case qac4 => k_asm); (case qac5 => k_asm); (case qacK => exact rfl); (case qacd => ktr_room); (case qacu => ktr_units))
    intro h8 tk8 F8 N8
    dsimp only
    (try k_fold)
    w_strict (repeat' ((fail_if_success (with_reducible show Q _ _)); (fail_if_success (with_reducible show wpAny _ _ (call (Value.ref 53) _) _ _ _)); (fail_if_success (with_reducible show wpAny _ _ (call (Value.ref 21) _) _ _ _)); first | (k_unfold; (try dsimp only)) | walk1 | (dsimp only; walk1)))
    rename (∀ p ∈ news, p.1 < _) => hlt
    rename Fr h₀ L _ _ => kF
    rename News h₀ L _ _ => kN
    refine hret _ _ _ _ ?_ kF kN hlt
    exact ⟨_, _, pairEq (cut_even hpar) (by rw [hpar]; rfl)⟩
  · have e1 := ends_odd hpar
    w_strict (repeat' ((fail_if_success (with_reducible show Q _ _)); (fail_if_success (with_reducible show wpAny _ _ (call (Value.ref 53) _) _ _ _)); (fail_if_success (with_reducible show wpAny _ _ (call (Value.ref 21) _) _ _ _)); first | (k_unfold; (try dsimp only)) | walk1 | (dsimp only; walk1)))
    (k_dflt (refine' Says.use (c_ellz w _ _ rfl _ _ (by omega)) ?qad1 ?qad2 ?qad3 ?qad4 ?qad5 ?qadK ?qadd ?qadu ?qadR); (case qad1 => k_asm); (case qad2 => k_asm); (case qad3 => k_asm); (case qad4 => k_asm); (case qad5 => k_asm); (case qadK => exact rfl); (case qadd => ktr_room); (case qadu => ktr_units))
    intro h8 tk8 F8 N8
    dsimp only
    (try k_fold)
    w_strict (repeat' ((fail_if_success (with_reducible show Q _ _)); (fail_if_success (with_reducible show wpAny _ _ (call (Value.ref 53) _) _ _ _)); (fail_if_success (with_reducible show wpAny _ _ (call (Value.ref 21) _) _ _ _)); first | (k_unfold; (try dsimp only)) | walk1 | (dsimp only; walk1)))
    have hp1 : k % 2 = 1 := by omega
    rename (∀ p ∈ news, p.1 < _) => hlt
    rename Fr h₀ L _ _ => kF
    rename News h₀ L _ _ => kN
    refine hret _ _ _ _ ?_ kF kN hlt
    exact ⟨_, _, pairEq (half_odd hpar) (by rw [hp1]; rfl)⟩
end Mine
end
section
open PySem PySem.W PyProof.Rows PySem.Calls PySem.Spec
set_option maxRecDepth 100000
set_option maxHeartbeats 8000000
namespace Mine
theorem fill5 : (Challenge.rw_rs0089_01.prog, hd.heap_39) = (Challenge.rw_rs0089_01.prog, hd.heap_39) := by
  w_top off
  k_fill
  rfl
section
variable {M : Model} {A : Around} {E : Value → Shared → Prop} {s : Shared} {env : Env}
theorem execs_two {a b : Stmt} {rest : List Stmt} {Q : Flow → Shared → Prop} (h : wpAny M A (execs [a, b] env) (fun f s' => match f with | .next => wpAny M A (execs rest env) Q E s' | f => Q f s') E s) :
    wpAny M A (execs (a :: b :: rest) env) Q E s := fun Γ p hΓ => by
  have h1 := h Γ p hΓ
  rw [execs_cons, Sem.wp_bind'] at h1 ⊢
  refine Sem.wp_mono M Γ _ (fun f p' s' h' => ?_) (fun _ _ _ h' => h') _ _ h1
  cases f with
  | next =>
    change Sem.wp M Γ (execs [b] env) _ _ _ _ at h'
    show Sem.wp M Γ (execs (b :: rest) env) _ _ _ _
    rw [execs_cons, Sem.wp_bind'] at h' ⊢
    refine Sem.wp_mono M Γ _ (fun f p' s' h' => ?_) (fun _ _ _ h' => h') _ _ h'
    cases f <;> first | exact h' Γ p' hΓ | exact h'
  | _ => exact h'
end
section
variable {prog : Program} {w : World} {A : Around} {E : Value → Shared → Prop} {Q : Flow → Shared → Prop} {s : Shared} {env : Env} {h₀ : Heap} {L : Addr}
/-- the ways of two statements meet again -/
theorem ksw_join2 {σ : Type} {a b : Stmt} {rest : List Stmt} {m₀ : Str → Option Value} (Led : σ → List (Addr × Obj)) (ps : σ → List (Str × Value)) (stored : List Str) (C : σ → Prop) (_F : Fr h₀ L s.heap m₀)
    (first : ∀ Q2 : Flow → Shared → Prop, (∀ (c : σ) (u : Str → Option Value) h tk, C c → Fr h₀ L h (kstB (fun z => if stored.contains z then u z else m₀ z) (ps c)) → News h₀ L h (Led c) → Q2 .next { s with heap := h, toks := tk }) → wpAny (model prog w) A (execs [a, b] env) Q2 E s)
    (go : ∀ (c : σ) (u : Str → Option Value) h tk, C c → Fr h₀ L h (kstB (fun z => if stored.contains z then u z else m₀ z) (ps c)) → News h₀ L h (Led c) → wpAny (model prog w) A (execs rest env) Q E { s with heap := h, toks := tk }) :
    wpAny (model prog w) A (execs (a :: b :: rest) env) Q E s := execs_two (first _ go)
end
theorem cuts_le {f g e r n : Nat} (h : f + g + e + r = n) (hn : n ≤ 35) : f ≤ 40 ∧ g ≤ 40 ∧ e ≤ 40 ∧ r ≤ 40 := by omega
theorem wl2 {x : Str} {f r : Nat} (h : x.length = f + r + 4) (hf : f ≤ 40) (hr : r ≤ 40) : x.length ≤ 200 := by omega
theorem wl3 {x : Str} {f g r : Nat} (h : x.length = f + g + r + 7) (hf : f ≤ 40) (hr : r ≤ 40) (hg : g ≤ 40) : x.length ≤ 200 := by omega
theorem wl4 {x : Str} {f g e r : Nat} (h : x.length = f + g + e + r + 10) (hf : f ≤ 40) (hr : r ≤ 40) (hg : g ≤ 40) (he : e ≤ 40) : x.length ≤ 200 := by omega
theorem sm00 {f g e r n : Nat} (h : f + g + e + r = n) (hg : g = 0) (he : e = 0) : f + r = n := by omega
theorem sm01 {f g e r n : Nat} (h : f + g + e + r = n) (hg : g = 0) : f + e + r = n := by omega
theorem sm10 {f g e r n : Nat} (h : f + g + e + r = n) (he : e = 0) : f + g + r = n := by omega
/-- what is asked of the pattern -/
def WantOk (w : World) (n1 n2 : Nat) (W : Str) : Prop :=
  (∀ t u, Says 5 w 21 [.str W t, .str (crow 120 n1) u] (RetBool (decide (n2 ≤ n1)))) ∧ (∀ t u, Says 5 w 21 [.str W t, .str (crow 122 n1) u] (RetBool false))
/-- whether one row reaches another -/
theorem c_reaches (w : World) (n1 n2 : Nat) (cut : Int) (hc0 : 0 ≤ cut) (h1 : n1 ≤ 35) (h2 : n2 ≤ 35) (t u v : Tok) : Says 10 w 79 [.str (row n1) t, .str (row n2) u, .int cut v] (RetBool (decide (n2 ≤ n1))) := by
  have l1 := row_len n1
  have l2 := row_len n2
  obtain ⟨f, hf, hf2⟩ := fmod_nat (c := cut) (d := ((row n2).length : Int) + 1) hc0 (by omega)
  obtain ⟨g, hg, hg2⟩ := fmod_nat (c := cut.fdiv 41) (d := ((row n2).length : Int) + 1 - (f : Int)) (fdiv_nonneg' hc0 (by omega)) (by omega)
  have hg' : (f : Int) + (cut.fdiv 41).fmod (((row n2).length : Int) + 1 - (f : Int)) = ((f + g : Nat) : Int) := by rw [hg]; omega
  obtain ⟨e, he, he2⟩ := fmod_nat (c := cut.fdiv 1681) (d := ((row n2).length : Int) + 1 - ((f + g : Nat) : Int)) (fdiv_nonneg' hc0 (by omega)) (by omega)
  have he' : ((f + g : Nat) : Int) + (cut.fdiv 1681).fmod (((row n2).length : Int) + 1 - ((f + g : Nat) : Int)) = ((f + g + e : Nat) : Int) := by rw [he]; omega
  have hsum : f + g + e ≤ n2 := by omega
  have s1 := row_slice (n := n2) (f := f) (g := g) (by omega)
  have s2 := row_slice (n := n2) (f := f + g) (g := e) (by omega)
  have s3 := row_to (n := n2) (f := f) (by omega)
  have s4 := row_from (n := n2) (f := f + g + e) (by omega)
  obtain ⟨r, hr⟩ : ∃ r, n2 - (f + g + e) = r := ⟨_, rfl⟩
  have hrs : f + g + e + r = n2 := by omega
  rw [hr] at s4
  clear hr
  have bb := cuts_le hrs h2
  have b1 : n1 ≤ 40 := Nat.le_trans h1 (by decide)
  intro loose mean mg mb dp un gd cn cs a ccd cl outer A₀ base h₀ L m news s Q E hB hF hX hN hT hk hdp hun hret
  refine wpAny_call ?_
  k_dflt cell_enter
  w_strict (repeat' ((fail_if_success (with_reducible show Q _ _)); (fail_if_success (with_reducible show wpAny _ _ (call (Value.ref 21) _) _ _ _)); (fail_if_success (with_reducible show wpAny _ _ (exec (Stmt.Assign [Expr.Name (Str.ofString "second") _] _ _) _) _ _ _)); first | (k_unfold; (try dsimp only)) | walk1 | (dsimp only; walk1)))
  rename Fr _ _ _ _ => lF
  rw [hf] at lF
  w_strict (repeat' ((fail_if_success (with_reducible show Q _ _)); (fail_if_success (with_reducible show wpAny _ _ (call (Value.ref 21) _) _ _ _)); (fail_if_success (with_reducible show wpAny _ _ (exec (Stmt.Assign [Expr.Name (Str.ofString "third") _] _ _) _) _ _ _)); first | (k_unfold; (try dsimp only)) | walk1 | (dsimp only; walk1)))
  rename Fr _ _ _ _ => lF
  rw [hg'] at lF
  w_strict (repeat' ((fail_if_success (with_reducible show Q _ _)); (fail_if_success (with_reducible show wpAny _ _ (call (Value.ref 21) _) _ _ _)); (fail_if_success (with_reducible show wpAny _ _ (execs (Stmt.Assign [Expr.Name (Str.ofString "pieces") _] _ _ :: _) _) _ _ _)); first | (k_unfold; (try dsimp only)) | walk1 | (dsimp only; walk1)))
  rename Fr _ _ _ _ => lF
  rw [he'] at lF
  clear hf hg hg' he he' hf2 hg2 he2
  with_unfolding_all refine' ksw_join2 (σ := Str × Tok) (fun _ => news) (fun st => [(Str.ofString "want", .str st.1 st.2)]) [Str.ofString "pieces"] (fun st => WantOk w n1 n2 st.1) lF ?first ?go
  case first =>
    clear hret
    intro Q2 hQ2
    w_strict (repeat' ((fail_if_success (with_reducible show Q _ _)); (fail_if_success (with_reducible show wpAny _ _ (call (Value.ref 21) _) _ _ _)); (fail_if_success (with_reducible show wpAny _ _ (exec (Stmt.Assign [Expr.Name (Str.ofString "pieces") _] _ _) _) _ _ _)); (fail_if_success (with_reducible show Q2 _ _)); first | (k_unfold; (try dsimp only)) | walk1 | (dsimp only; walk1)))
    k_here
    lct_look
    lcg_calm
    k_dflt (refine LCt.Assign_ListComp_T (F₀ := by k_asm) (by rfl) (by with_unfolding_all rfl) (by with_unfolding_all rfl) (by decide) (by rfl) (by decide) (by rfl) (by rfl) (by rfl) ?_)
    k_dflt lct_toSrc
    by_cases hg0 : g = 0
    · by_cases he0 : e = 0
      · have p1 : (Txt.slice (row n2) (some ((f : Nat) : Int)) (some ((f + g : Nat) : Int)) != Str.ofString "") = false := by rw [s1, row_empty]; simp [hg0]
        have p2 : (Txt.slice (row n2) (some ((f + g : Nat) : Int)) (some ((f + g + e : Nat) : Int)) != Str.ofString "") = false := by rw [s2, row_empty]; simp [he0]
        w_strict (repeat' ((fail_if_success (with_reducible show Q _ _)); (fail_if_success (with_reducible show wpAny _ _ (call (Value.ref 21) _) _ _ _)); (fail_if_success (with_reducible show wpAny _ _ (call (Value.builtin "str.join") _) _ _ _)); (fail_if_success (with_reducible show Q2 _ _)); first | (k_unfold; (try dsimp only)) | ((with_reducible show LCg.CompEnd _ _ _ _ _ _ _ _ _ _ _ _ _ _); (rename News _ _ _ _ => nC); (refine LCg.CompEnd.intro (by assumption) nC _ (fun p hp => hp) (by first | assumption | (simp only [LCg.Off3, and_true]; assumption)) (by lcg_src) ?_)) | walk1 | (dsimp only; walk1)))
        rename News _ _ _ _ => lN
        simp only [s1, s2, s3, s4, xrow_eq] at lN
        refine join_list (ys := [crow 120 f, row r]) ⟨_, (lN _ (by k_mem)).1, rfl, _, rfl⟩ (by repeat constructor) (by rw [dots_eq]; simp [crow_len, row_len, dots_len]; omega) ?_
        intro tj kj
        obtain ⟨W, hW⟩ : ∃ W, W = Txt.join (Str.ofString "...") [crow 120 f, row r] := ⟨_, rfl⟩
        rw [← hW]
        have hw := want2 (hW.trans (StrLaws.glued_eq_join _ _))
        clear hW
        have hwl := wl2 hw.2.2 bb.1 bb.2.2.2
        w_strict (repeat' ((fail_if_success (with_reducible show Q _ _)); (fail_if_success (with_reducible show wpAny _ _ (call (Value.ref 21) _) _ _ _)); (fail_if_success (with_reducible show Q2 _ _)); first | (k_unfold; (try dsimp only)) | walk1 | (dsimp only; walk1)))
        rename News _ _ _ _ => nE
        exact hQ2 (W, _) _ _ _ ⟨fun t u => (sm00 hrs hg0 he0) ▸ reach0 w W f r n1 t u hwl bb.1 bb.2.2.2 b1 hw.2.1 hw.1, fun t u => reachZ0 w W f r n1 t u hwl bb.1 bb.2.2.2 b1 hw.2.1 hw.1⟩ (by refine ksw_fr ?_ ?_ (by assumption); kst_all; ksw_same) (fun p hp => nE p (by first | exact hp | (repeat first | exact hp | refine List.mem_cons_of_mem _ ?_)))
      · have p1 : (Txt.slice (row n2) (some ((f : Nat) : Int)) (some ((f + g : Nat) : Int)) != Str.ofString "") = false := by rw [s1, row_empty]; simp [hg0]
        have p2 : (Txt.slice (row n2) (some ((f + g : Nat) : Int)) (some ((f + g + e : Nat) : Int)) != Str.ofString "") = true := by rw [s2, row_empty]; simp [he0]
        w_strict (repeat' ((fail_if_success (with_reducible show Q _ _)); (fail_if_success (with_reducible show wpAny _ _ (call (Value.ref 21) _) _ _ _)); (fail_if_success (with_reducible show wpAny _ _ (call (Value.builtin "str.join") _) _ _ _)); (fail_if_success (with_reducible show Q2 _ _)); first | (k_unfold; (try dsimp only)) | ((with_reducible show LCg.CompEnd _ _ _ _ _ _ _ _ _ _ _ _ _ _); (rename News _ _ _ _ => nC); (refine LCg.CompEnd.intro (by assumption) nC _ (fun p hp => hp) (by first | assumption | (simp only [LCg.Off3, and_true]; assumption)) (by lcg_src) ?_)) | walk1 | (dsimp only; walk1)))
        rename News _ _ _ _ => lN
        simp only [s1, s2, s3, s4, xrow_eq] at lN
        refine join_list (ys := [crow 120 f, row e, row r]) ⟨_, (lN _ (by k_mem)).1, rfl, _, rfl⟩ (by repeat constructor) (by rw [dots_eq]; simp [crow_len, row_len, dots_len]; omega) ?_
        intro tj kj
        obtain ⟨W, hW⟩ : ∃ W, W = Txt.join (Str.ofString "...") [crow 120 f, row e, row r] := ⟨_, rfl⟩
        rw [← hW]
        have hw := want3 (hW.trans (StrLaws.glued_eq_join _ _))
        clear hW
        have hwl := wl3 hw.2.2 bb.1 bb.2.2.2 bb.2.2.1
        w_strict (repeat' ((fail_if_success (with_reducible show Q _ _)); (fail_if_success (with_reducible show wpAny _ _ (call (Value.ref 21) _) _ _ _)); (fail_if_success (with_reducible show Q2 _ _)); first | (k_unfold; (try dsimp only)) | walk1 | (dsimp only; walk1)))
        rename News _ _ _ _ => nE
        exact hQ2 (W, _) _ _ _ ⟨fun t u => (sm01 hrs hg0) ▸ reach1 w W f e r n1 t u hwl bb.1 bb.2.2.2 b1 bb.2.2.1 hw.2.1 hw.1, fun t u => reachZ1 w W f e r n1 t u hwl bb.1 bb.2.2.2 b1 bb.2.2.1 hw.2.1 hw.1⟩ (by refine ksw_fr ?_ ?_ (by assumption); kst_all; ksw_same) (fun p hp => nE p (by first | exact hp | (repeat first | exact hp | refine List.mem_cons_of_mem _ ?_)))
    · by_cases he0 : e = 0
      · have p1 : (Txt.slice (row n2) (some ((f : Nat) : Int)) (some ((f + g : Nat) : Int)) != Str.ofString "") = true := by rw [s1, row_empty]; simp [hg0]
        have p2 : (Txt.slice (row n2) (some ((f + g : Nat) : Int)) (some ((f + g + e : Nat) : Int)) != Str.ofString "") = false := by rw [s2, row_empty]; simp [he0]
        w_strict (repeat' ((fail_if_success (with_reducible show Q _ _)); (fail_if_success (with_reducible show wpAny _ _ (call (Value.ref 21) _) _ _ _)); (fail_if_success (with_reducible show wpAny _ _ (call (Value.builtin "str.join") _) _ _ _)); (fail_if_success (with_reducible show Q2 _ _)); first | (k_unfold; (try dsimp only)) | ((with_reducible show LCg.CompEnd _ _ _ _ _ _ _ _ _ _ _ _ _ _); (rename News _ _ _ _ => nC); (refine LCg.CompEnd.intro (by assumption) nC _ (fun p hp => hp) (by first | assumption | (simp only [LCg.Off3, and_true]; assumption)) (by lcg_src) ?_)) | walk1 | (dsimp only; walk1)))
        rename News _ _ _ _ => lN
        simp only [s1, s2, s3, s4, xrow_eq] at lN
        refine join_list (ys := [crow 120 f, row g, row r]) ⟨_, (lN _ (by k_mem)).1, rfl, _, rfl⟩ (by repeat constructor) (by rw [dots_eq]; simp [crow_len, row_len, dots_len]; omega) ?_
        intro tj kj
        obtain ⟨W, hW⟩ : ∃ W, W = Txt.join (Str.ofString "...") [crow 120 f, row g, row r] := ⟨_, rfl⟩
        rw [← hW]
        have hw := want3 (hW.trans (StrLaws.glued_eq_join _ _))
        clear hW
        have hwl := wl3 hw.2.2 bb.1 bb.2.2.2 bb.2.1
        w_strict (repeat' ((fail_if_success (with_reducible show Q _ _)); (fail_if_success (with_reducible show wpAny _ _ (call (Value.ref 21) _) _ _ _)); (fail_if_success (with_reducible show Q2 _ _)); first | (k_unfold; (try dsimp only)) | walk1 | (dsimp only; walk1)))
        rename News _ _ _ _ => nE
        exact hQ2 (W, _) _ _ _ ⟨fun t u => (sm10 hrs he0) ▸ reach1 w W f g r n1 t u hwl bb.1 bb.2.2.2 b1 bb.2.1 hw.2.1 hw.1, fun t u => reachZ1 w W f g r n1 t u hwl bb.1 bb.2.2.2 b1 bb.2.1 hw.2.1 hw.1⟩ (by refine ksw_fr ?_ ?_ (by assumption); kst_all; ksw_same) (fun p hp => nE p (by first | exact hp | (repeat first | exact hp | refine List.mem_cons_of_mem _ ?_)))
      · have p1 : (Txt.slice (row n2) (some ((f : Nat) : Int)) (some ((f + g : Nat) : Int)) != Str.ofString "") = true := by rw [s1, row_empty]; simp [hg0]
        have p2 : (Txt.slice (row n2) (some ((f + g : Nat) : Int)) (some ((f + g + e : Nat) : Int)) != Str.ofString "") = true := by rw [s2, row_empty]; simp [he0]
        w_strict (repeat' ((fail_if_success (with_reducible show Q _ _)); (fail_if_success (with_reducible show wpAny _ _ (call (Value.ref 21) _) _ _ _)); (fail_if_success (with_reducible show wpAny _ _ (call (Value.builtin "str.join") _) _ _ _)); (fail_if_success (with_reducible show Q2 _ _)); first | (k_unfold; (try dsimp only)) | ((with_reducible show LCg.CompEnd _ _ _ _ _ _ _ _ _ _ _ _ _ _); (rename News _ _ _ _ => nC); (refine LCg.CompEnd.intro (by assumption) nC _ (fun p hp => hp) (by first | assumption | (simp only [LCg.Off3, and_true]; assumption)) (by lcg_src) ?_)) | walk1 | (dsimp only; walk1)))
        rename News _ _ _ _ => lN
        simp only [s1, s2, s3, s4, xrow_eq] at lN
        refine join_list (ys := [crow 120 f, row g, row e, row r]) ⟨_, (lN _ (by k_mem)).1, rfl, _, rfl⟩ (by repeat constructor) (by rw [dots_eq]; simp [crow_len, row_len, dots_len]; omega) ?_
        intro tj kj
        obtain ⟨W, hW⟩ : ∃ W, W = Txt.join (Str.ofString "...") [crow 120 f, row g, row e, row r] := ⟨_, rfl⟩
        rw [← hW]
        have hw := want4 (hW.trans (StrLaws.glued_eq_join _ _))
        clear hW
        have hwl := wl4 hw.2.2 bb.1 bb.2.2.2 bb.2.1 bb.2.2.1
        w_strict (repeat' ((fail_if_success (with_reducible show Q _ _)); (fail_if_success (with_reducible show wpAny _ _ (call (Value.ref 21) _) _ _ _)); (fail_if_success (with_reducible show Q2 _ _)); first | (k_unfold; (try dsimp only)) | walk1 | (dsimp only; walk1)))
        rename News _ _ _ _ => nE
        exact hQ2 (W, _) _ _ _ ⟨fun t u => (hrs) ▸ reach2 w W f g e r n1 t u hwl bb.1 bb.2.2.2 b1 bb.2.1 bb.2.2.1 hw.2.1 hw.1, fun t u => reachZ2 w W f g e r n1 t u hwl bb.1 bb.2.2.2 b1 bb.2.1 bb.2.2.1 hw.2.1 hw.1⟩ (by refine ksw_fr ?_ ?_ (by assumption); kst_all; ksw_same) (fun p hp => nE p (by first | exact hp | (repeat first | exact hp | refine List.mem_cons_of_mem _ ?_)))
  case go =>
    clear lF bb s1 s2 s3 s4 hsum hrs
    rintro ⟨W, tW⟩ u9 h9 tk9 ⟨hw1, hw2⟩ F N
    dsimp only [kstB] at hw1 hw2 F N ⊢
    w_strict (repeat' ((fail_if_success (with_reducible show Q _ _)); (fail_if_success (with_reducible show wpAny _ _ (call (Value.ref 21) _) _ _ _)); first | (k_unfold; (try dsimp only)) | walk1 | (dsimp only; walk1)))
    rw [xrow_eq n1]
    (k_dflt (refine' Says.use (hw1 _ _) ?qab1 ?qab2 ?qab3 ?qab4 ?qab5 ?qabK ?qabd ?qabu ?qabR); (case qab1 => k_asm); (case qab2 => k_asm); (case qab3 => k_asm); (case qab4 => k_asm); (case qab5 => k_asm); (case qabK => exact rfl); (case qabd => ktr_room); (case qabu => ktr_units))
    intro h8 tk8 F8 N8
    dsimp only
    (try k_fold)
    by_cases hle : n2 ≤ n1
    · rw [decide_eq_true hle]
      w_strict (repeat' ((fail_if_success (with_reducible show Q _ _)); (fail_if_success (with_reducible show wpAny _ _ (call (Value.ref 21) _) _ _ _)); first | (k_unfold; (try dsimp only)) | walk1 | (dsimp only; walk1)))
      rw [zrow_eq n1]
      (k_dflt (refine' Says.use (hw2 _ _) ?qac1 ?qac2 ?qac3 ?qac4 ?qac5 ?qacK ?qacd ?qacu ?qacR); (case qac1 => k_asm); (case qac2 => k_asm); (case qac3 => k_asm); (case qac4 => k_asm); (case qac5 => k_asm); (case qacK => exact rfl); (case qacd => ktr_room); (case qacu => ktr_units))
      intro h9 tk9 F9 N9
      dsimp only
      (try k_fold)
      w_strict (repeat' ((fail_if_success (with_reducible show Q _ _)); (fail_if_success (with_reducible show wpAny _ _ (call (Value.ref 21) _) _ _ _)); first | (k_unfold; (try dsimp only)) | walk1 | (dsimp only; walk1)))
      rename News h₀ L _ _ => nE
      exact endB hret (decide_eq_true hle) (by assumption) nE (fun p hp => by first | exact hp | (repeat first | exact hp | refine List.mem_cons_of_mem _ ?_))
    · rw [decide_eq_false hle]
      w_strict (repeat' ((fail_if_success (with_reducible show Q _ _)); (fail_if_success (with_reducible show wpAny _ _ (call (Value.ref 21) _) _ _ _)); first | (k_unfold; (try dsimp only)) | walk1 | (dsimp only; walk1)))
      rename News h₀ L _ _ => nE
      exact endB hret (by first | exact decide_eq_false hle | rfl) (by assumption) nE (fun p hp => by first | exact hp | (repeat first | exact hp | refine List.mem_cons_of_mem _ ?_))
end Mine
end
section
open PySem PySem.W PyProof.Rows PySem.Calls PySem.Spec
set_option maxRecDepth 100000
set_option maxHeartbeats 8000000
namespace Mine
theorem fill6 : (Challenge.rw_rs0089_01.prog, hd.heap_39) = (Challenge.rw_rs0089_01.prog, hd.heap_39) := by
  w_top off
  k_fill
  rfl
theorem gl1 (i : Int) : (Txt.slice (Str.ofString "xYwV") none (some i)).length + (Str.ofString "z").length ≤ sizeLine := by
  have h := Txt.slice_le (Str.ofString "xYwV") none (some i)
  rw [show (Str.ofString "xYwV").length = 4 by decide +kernel] at h
  rw [show (Str.ofString "z").length = 1 by decide +kernel, sizeLine_eq]; omega
theorem gl1' (i : Int) : (Txt.slice (Str.ofString "xYwV") none (some i) ++ Str.ofString "z").length ≤ 5 := by
  have h := Txt.slice_le (Str.ofString "xYwV") none (some i)
  rw [show (Str.ofString "xYwV").length = 4 by decide +kernel] at h
  rw [Str.length_append, show (Str.ofString "z").length = 1 by decide +kernel]; omega
theorem gl2' (i j : Int) : (Txt.slice (Str.ofString "xYwV") none (some i) ++ Str.ofString "z" ++ Txt.slice (Str.ofString "xYwV") (some j) none).length ≤ 9 := by
  have h := Txt.slice_le (Str.ofString "xYwV") (some j) none
  rw [show (Str.ofString "xYwV").length = 4 by decide +kernel] at h
  have h2 := gl1' i
  rw [Str.length_append]; omega
theorem gl2 (i j : Int) : (Txt.slice (Str.ofString "xYwV") none (some i) ++ Str.ofString "z").length + (Txt.slice (Str.ofString "xYwV") (some j) none).length ≤ sizeLine := by
  have h := gl2' i j
  rw [Str.length_append] at h
  rw [sizeLine_eq]; omega
theorem gl3 (i j : Int) {o : Nat} (ho : o ≤ 35) : (Txt.slice (Str.ofString "xYwV") none (some i) ++ Str.ofString "z" ++ Txt.slice (Str.ofString "xYwV") (some j) none).length + (row o).length ≤ sizeLine := by
  have h := gl2' i j
  rw [row_len, sizeLine_eq]; omega
theorem gl4 {k : Nat} (h : k ≤ 35) : (Str.ofString "XyWv").length + (row k).length ≤ sizeLine := by
  rw [row_len, show (Str.ofString "XyWv").length = 4 by decide +kernel, sizeLine_eq]; omega
theorem gl5 {d : Nat} (h : d ≤ 35) : (Str.ofString "257 \"").length + (Txt.mul (Str.ofString "\"") (2 * (d : Int) + 6 - 5)).length ≤ sizeLine := by
  rw [mul_q (by omega), row_len, show (Str.ofString "257 \"").length = 5 by decide +kernel, sizeLine_eq]; omega
/-- what a longer row has more -/
theorem c_gap (w : World) (other d : Nat) (cut : Int) (hc0 : 0 ≤ cut) (h2 : 3 ≤ other) (h3 : other + d ≤ 35) (hd1 : d ≠ 1) (t u v : Tok) : Says 15 w 86 [.str (row (other + d)) t, .str (row other) u, .int cut v] (RetStr (row d)) := by
  obtain ⟨c, hc, hc2⟩ := fmod_nat (c := cut) (d := 3) hc0 (by decide)
  have hc3 : c < 3 := Int.ofNat_lt.mp hc2
  clear hc2 hc0
  have hd35 : d ≤ 35 := Nat.le_trans (Nat.le_add_left _ _) h3
  have ho35 : other ≤ 35 := Nat.le_trans (Nat.le_add_right _ _) h3
  have hd200 : 2 * d + 1 ≤ 200 := by omega
  have l1 := row_len (other + d)
  have l2 := row_len other
  intro loose mean mg mb dp un gd cn cs a ccd cl outer A₀ base h₀ L m news s Q E hB hF hX hN hT hk hdp hun hret
  refine wpAny_call ?_
  k_dflt cell_enter
  w_strict (repeat' ((fail_if_success (with_reducible show Q _ _)); (fail_if_success (with_reducible show wpAny _ _ (call (Value.ref 67) _) _ _ _)); (fail_if_success (with_reducible show wpAny _ _ (call (Value.ref 53) _) _ _ _)); first | (k_unfold; (try dsimp only)) | ((with_reducible show wpAny _ _ (binaryOp Operator.Add (Value.str _ _) (Value.str _ _)) _ _ _); (refine add_str (hsz := ?hz) ?_); (case hz => with_reducible (first | exact gl1 _ | exact gl2 _ _ | exact gl3 _ _ ho35 | exact gl4 h3 | exact gl5 hd35)); intro _ _) | walk1 | (dsimp only; walk1)))
  rw [lx_eq, hc, ly_eq hc3]
  (k_dflt (refine' Says.use (c_lev w other d c _ _ _ _ h2 h3 hc3 hd1 (by rw [l1])) ?qab1 ?qab2 ?qab3 ?qab4 ?qab5 ?qabK ?qabd ?qabu ?qabR); (case qab1 => k_asm); (case qab2 => k_asm); (case qab3 => k_asm); (case qab4 => k_asm); (case qab5 => k_asm); (case qabK => exact rfl); (case qabd => ktr_room); (case qabu => ktr_units))
  intro t7 h7 tk7 F7 N7
  dsimp only
  (try k_fold)
  w_strict (repeat' ((fail_if_success (with_reducible show Q _ _)); (fail_if_success (with_reducible show wpAny _ _ (call (Value.ref 67) _) _ _ _)); (fail_if_success (with_reducible show wpAny _ _ (call (Value.ref 53) _) _ _ _)); first | (k_unfold; (try dsimp only)) | ((with_reducible show wpAny _ _ (binaryOp Operator.Add (Value.str _ _) (Value.str _ _)) _ _ _); (refine add_str (hsz := ?hz) ?_); (case hz => with_reducible (first | exact gl1 _ | exact gl2 _ _ | exact gl3 _ _ ho35 | exact gl4 h3 | exact gl5 hd35)); intro _ _) | walk1 | (dsimp only; walk1)))
  (k_dflt (refine' Says.use (c_parse w (2 * d + 1) false hd200 _ (gap_eq d) _) ?qac1 ?qac2 ?qac3 ?qac4 ?qac5 ?qacK ?qacd ?qacu ?qacR); (case qac1 => k_asm); (case qac2 => k_asm); (case qac3 => k_asm); (case qac4 => k_asm); (case qac5 => k_asm); (case qacK => exact rfl); (case qacd => ktr_room); (case qacu => ktr_units))
  intro t8 h8 tk8 F8 N8
  dsimp only
  (try k_fold)
  w_strict (repeat' ((fail_if_success (with_reducible show Q _ _)); (fail_if_success (with_reducible show wpAny _ _ (call (Value.ref 67) _) _ _ _)); (fail_if_success (with_reducible show wpAny _ _ (call (Value.ref 53) _) _ _ _)); first | (k_unfold; (try dsimp only)) | ((with_reducible show wpAny _ _ (binaryOp Operator.Add (Value.str _ _) (Value.str _ _)) _ _ _); (refine add_str (hsz := ?hz) ?_); (case hz => with_reducible (first | exact gl1 _ | exact gl2 _ _ | exact gl3 _ _ ho35 | exact gl4 h3 | exact gl5 hd35)); intro _ _) | walk1 | (dsimp only; walk1)))
  rw [half_gap]
  exact hret _ _ _ (by assumption) (by assumption)
end Mine
end
section
open PySem PySem.W PyProof.Rows PySem.Calls PySem.Spec
set_option maxRecDepth 100000
set_option maxHeartbeats 8000000
namespace Mine
theorem fill7 : (Challenge.rw_rs0089_01.prog, hd.heap_39) = (Challenge.rw_rs0089_01.prog, hd.heap_39) := by
  w_top off
  k_fill
  rfl
theorem intsEq {x y x' y' : Int} {t u : Tok} (h1 : x = x') (h2 : y = y') : [Value.int x t, Value.int y u] = [Value.int x' t, Value.int y' u] := by rw [h1, h2]
abbrev RetTup2 (vs : List Value → Prop) : RetT := fun h₀ L m news s Q => ∀ (a : Addr) (xs : List Value) (h' : Heap) (tk' : Nat), vs xs → Fr h₀ L h' m → News h₀ L h' ((a, { cls := .type "tuple", data := .seq xs.toArray }) :: news) → Q (.ref a) { s with heap := h', toks := tk' }
/-- the turns, as reckoned -/
theorem c_run (w : World) (a0 n0 : Nat) (cut : Int) (hc0 : 0 ≤ cut) (ha0 : a0 ≤ 35) (hn0 : n0 ≤ 35) (hodd : n0 % 2 = 1) (t u v : Tok) : Says 20 w 93 [.str (row a0) t, .str (row n0) u, .int cut v] (RetTup2 fun xs => ∃ t1 t2, xs = [.int (runP 40 a0 n0 1).1 t1, .int (runP 40 a0 n0 1).2 t2]) := by
  intro loose mean mg mb dp un gd cn cs a ccd cl outer A₀ base h₀ L m news s Q E hB hF hX hN hT hk hdp hun hret
  refine wpAny_call ?_
  k_dflt cell_enter
  w_strict (repeat' ((fail_if_success (with_reducible show Q _ _)); (fail_if_success (with_reducible show wpAny _ _ (exec (Stmt.For _ _ _ _ _) _) _ _ _)); first | (k_unfold; (try dsimp only)) | walk1 | (dsimp only; walk1)))
  (rename Fr _ _ _ _ => lF); (with_unfolding_all refine' For_invVF lF ?k1 ?k2 ?_); (case k1 => exact rfl); (case k2 => exact rfl); k_whole
  w_strict (repeat' ((fail_if_success (with_reducible show Q _ _)); (fail_if_success (with_reducible show wpAny _ _ (pyIter _) _ _ _)); first | (k_unfold; (try dsimp only)) | walk1 | (dsimp only; walk1)))
  rename IsRange _ _ _ _ _ _ _ _ => hR
  rename News _ _ _ _ => lN
  rename Fr _ _ _ _ => lF
  with_unfolding_all refine' kst_range (σ := Nat × Tok × Nat × Tok × Int × Tok) (n := 40) (fun _ => news) (fun st => [(Str.ofString "a", .str (row st.1) st.2.1), (Str.ofString "n", .str (row st.2.2.1) st.2.2.2.1), (Str.ofString "sign", .int st.2.2.2.2.1 st.2.2.2.2.2)]) (fun _ => True) [Str.ofString "half", Str.ofString "odd", Str.ofString "rest", Str.ofString "second"] (fun pre st => runP (40 - pre.length) st.1 st.2.2.1 st.2.2.2.2.1 = runP 40 a0 n0 1 ∧ st.1 ≤ 35 ∧ st.2.2.1 ≤ 35 ∧ st.2.2.1 % 2 = 1) (a0, _, n0, _, 1, _) rfl hR ?hs ?hn lF lN trivial ?hk ?hp ?turn ?done
  case hs => decide
  case hn => rfl
  case hk => kst_all
  case hp => exact ⟨rfl, ha0, hn0, hodd⟩
  case done =>
    clear lF lN hR
    rintro ⟨na, ta, nn, tn, sg, tsg⟩ u5 h5 tkk5 - ⟨hP, hba, hbn, hno⟩ F N
    dsimp only [kstB] at hP hba hbn hno F N ⊢
    rw [rangeKs_length] at hP
    w_strict (repeat' ((fail_if_success (with_reducible show Q _ _)); first | (k_unfold; (try dsimp only)) | walk1 | (dsimp only; walk1)))
    rename Fr h₀ L _ _ => kF
    rename News h₀ L _ _ => kN
    refine hret _ _ _ _ ?_ kF kN
    exact ⟨_, _, intsEq (congrArg Prod.fst hP) (congrArg Prod.snd hP)⟩
  case turn =>
    clear lF lN hR
    rintro ⟨na, ta, nn, tn, sg, tsg⟩ pre k tk5 u5 h5 tkk5 own hk5 hlt5 hoff - ⟨hP, hba, hbn, hno⟩ F N
    dsimp only [kstB] at hP hba hbn hno F N ⊢
    have l1 := row_len na
    have l2 := row_len nn
    obtain ⟨f, hf⟩ : ∃ f, 40 - pre.length = f + 1 := ⟨39 - pre.length, by omega⟩
    have hf' : 40 - (pre.length + 1) = f := by omega
    rw [hf] at hP
    have qa := row_empty' na
    have qn := quote_row nn
    by_cases ha : na = 0
    · rw [decide_eq_true ha] at qa
      rw [run_end (.inl ha)] at hP
      w_strict (repeat' ((fail_if_success (with_reducible show Q _ _)); (fail_if_success (with_reducible show InvEndN _ _ _ _ _ _ _)); first | (k_unfold; (try dsimp only)) | ((with_reducible show wpAny _ _ (call (Value.ref 21) _) _ _ _); (k_dflt (refine Says.use (c_ell0 w _ _ _ _ (by rw [quote_len]; omega) (by omega) ell_q) (by k_asm) (by k_asm) (by k_asm) (by k_asm) (by k_asm) (by exact rfl) (by ktr_room) (by ktr_units) ?_)); intro h9 tk9 F9 N9; (try dsimp only); (try k_fold); (try k_sweep)) | ((with_reducible show wpAny _ _ (call (Value.ref 74) _) _ _ _); (k_dflt (refine Says.use (c_halved w _ (by omega) _) (by k_asm) (by k_asm) (by k_asm) (by k_asm) (by k_asm) (by exact rfl) (by ktr_room) (by ktr_units) ?_)); intro aa xx h9 tk9 hxx F9 N9 hll; obtain ⟨t1, t2, rfl⟩ := hxx; clear hll; (try dsimp only); (try k_fold); (try k_sweep)) | ((with_reducible show wpAny _ _ (call (Value.ref 79) _) _ _ _); (k_dflt (refine Says.use (c_reaches w _ _ _ hc0 (by omega) (by omega) _ _ _) (by k_asm) (by k_asm) (by k_asm) (by k_asm) (by k_asm) (by exact rfl) (by ktr_room) (by ktr_units) ?_)); intro h9 tk9 F9 N9; (try dsimp only); (try k_fold); (try k_sweep)) | ((with_reducible show wpAny _ _ (call (Value.ref 86) _) _ _ _); (k_dflt (refine Says.use (c_gap w _ _ _ hc0 (by omega) (by omega) (by omega) _ _ _) (by k_asm) (by k_asm) (by k_asm) (by k_asm) (by k_asm) (by exact rfl) (by ktr_room) (by ktr_units) ?_)); intro t9 h9 tk9 F9 N9; (try dsimp only); (try k_fold); (try k_sweep)) | walk1 | (dsimp only; walk1)))
      rename Fr h₀ L _ _ => kF
      rename News h₀ L _ _ => kN
      refine hret _ _ _ _ ?_ kF (fun p hp => kN p (by rcases List.mem_cons.mp hp with rfl | hp; exact List.mem_cons_self ..; simp [hp]))
      exact ⟨_, _, intsEq (congrArg Prod.fst hP) ((congrArg Int.ofNat l2).trans (congrArg Prod.snd hP))⟩
    · rw [decide_eq_false ha] at qa
      by_cases hn : nn = 1
      · rw [decide_eq_true hn] at qn
        rw [run_end (.inr hn)] at hP
        w_strict (repeat' ((fail_if_success (with_reducible show Q _ _)); (fail_if_success (with_reducible show InvEndN _ _ _ _ _ _ _)); first | (k_unfold; (try dsimp only)) | ((with_reducible show wpAny _ _ (call (Value.ref 21) _) _ _ _); (k_dflt (refine Says.use (c_ell0 w _ _ _ _ (by rw [quote_len]; omega) (by omega) ell_q) (by k_asm) (by k_asm) (by k_asm) (by k_asm) (by k_asm) (by exact rfl) (by ktr_room) (by ktr_units) ?_)); intro h9 tk9 F9 N9; (try dsimp only); (try k_fold); (try k_sweep)) | ((with_reducible show wpAny _ _ (call (Value.ref 74) _) _ _ _); (k_dflt (refine Says.use (c_halved w _ (by omega) _) (by k_asm) (by k_asm) (by k_asm) (by k_asm) (by k_asm) (by exact rfl) (by ktr_room) (by ktr_units) ?_)); intro aa xx h9 tk9 hxx F9 N9 hll; obtain ⟨t1, t2, rfl⟩ := hxx; clear hll; (try dsimp only); (try k_fold); (try k_sweep)) | ((with_reducible show wpAny _ _ (call (Value.ref 79) _) _ _ _); (k_dflt (refine Says.use (c_reaches w _ _ _ hc0 (by omega) (by omega) _ _ _) (by k_asm) (by k_asm) (by k_asm) (by k_asm) (by k_asm) (by exact rfl) (by ktr_room) (by ktr_units) ?_)); intro h9 tk9 F9 N9; (try dsimp only); (try k_fold); (try k_sweep)) | ((with_reducible show wpAny _ _ (call (Value.ref 86) _) _ _ _); (k_dflt (refine Says.use (c_gap w _ _ _ hc0 (by omega) (by omega) (by omega) _ _ _) (by k_asm) (by k_asm) (by k_asm) (by k_asm) (by k_asm) (by exact rfl) (by ktr_room) (by ktr_units) ?_)); intro t9 h9 tk9 F9 N9; (try dsimp only); (try k_fold); (try k_sweep)) | walk1 | (dsimp only; walk1)))
        rename Fr h₀ L _ _ => kF
        rename News h₀ L _ _ => kN
        refine hret _ _ _ _ ?_ kF (fun p hp => kN p (by rcases List.mem_cons.mp hp with rfl | hp; exact List.mem_cons_self ..; simp [hp]))
        exact ⟨_, _, intsEq (congrArg Prod.fst hP) ((congrArg Int.ofNat l2).trans (congrArg Prod.snd hP))⟩
      · rw [decide_eq_false hn] at qn
        have hnt : ¬ (na = 0 ∨ nn = 1) := by omega
        by_cases hpar : na % 2 = 0
        · rw [run_even hnt hpar] at hP
          have hz : ((na % 2 : Nat) : Int) = 0 := by omega
          w_strict (repeat' ((fail_if_success (with_reducible show Q _ _)); (fail_if_success (with_reducible show InvEndN _ _ _ _ _ _ _)); first | (k_unfold; (try dsimp only)) | ((with_reducible show wpAny _ _ (call (Value.ref 21) _) _ _ _); (k_dflt (refine Says.use (c_ell0 w _ _ _ _ (by rw [quote_len]; omega) (by omega) ell_q) (by k_asm) (by k_asm) (by k_asm) (by k_asm) (by k_asm) (by exact rfl) (by ktr_room) (by ktr_units) ?_)); intro h9 tk9 F9 N9; (try dsimp only); (try k_fold); (try k_sweep)) | ((with_reducible show wpAny _ _ (call (Value.ref 74) _) _ _ _); (k_dflt (refine Says.use (c_halved w _ (by omega) _) (by k_asm) (by k_asm) (by k_asm) (by k_asm) (by k_asm) (by exact rfl) (by ktr_room) (by ktr_units) ?_)); intro aa xx h9 tk9 hxx F9 N9 hll; obtain ⟨t1, t2, rfl⟩ := hxx; clear hll; (try dsimp only); (try k_fold); (try k_sweep)) | ((with_reducible show wpAny _ _ (call (Value.ref 79) _) _ _ _); (k_dflt (refine Says.use (c_reaches w _ _ _ hc0 (by omega) (by omega) _ _ _) (by k_asm) (by k_asm) (by k_asm) (by k_asm) (by k_asm) (by exact rfl) (by ktr_room) (by ktr_units) ?_)); intro h9 tk9 F9 N9; (try dsimp only); (try k_fold); (try k_sweep)) | ((with_reducible show wpAny _ _ (call (Value.ref 86) _) _ _ _); (k_dflt (refine Says.use (c_gap w _ _ _ hc0 (by omega) (by omega) (by omega) _ _ _) (by k_asm) (by k_asm) (by k_asm) (by k_asm) (by k_asm) (by exact rfl) (by ktr_room) (by ktr_units) ?_)); intro t9 h9 tk9 F9 N9; (try dsimp only); (try k_fold); (try k_sweep)) | walk1 | (dsimp only; walk1)))
          all_goals first
            | (exfalso; omega)
            | (rename News _ _ _ _ => nE; refine kst_end ⟨_, _, _, _, _, _⟩ (by assumption) nE (by intro p hp; simp [hp]) (by intro p hp; simp [hp]) (by rfl) trivial (by kst_all) (by kst_same) ?_; dsimp only; rw [List.length_append]; exact ⟨by (show runP (40 - (pre.length + 1)) _ _ _ = _); rw [hf']; first | (rw [if_pos (by omega)] at hP; exact hP) | (rw [if_neg (by omega)] at hP; exact hP), by omega, by omega, by omega⟩)
        · by_cases hle : nn ≤ na
          · obtain ⟨d, rfl⟩ := Nat.exists_eq_add_of_le hle
            rw [run_gap hnt hpar hle, Nat.add_sub_cancel_left] at hP
            have hre : decide (nn ≤ nn + d) = true := decide_eq_true hle
            w_strict (repeat' ((fail_if_success (with_reducible show Q _ _)); (fail_if_success (with_reducible show InvEndN _ _ _ _ _ _ _)); first | (k_unfold; (try dsimp only)) | ((with_reducible show wpAny _ _ (call (Value.ref 21) _) _ _ _); (k_dflt (refine Says.use (c_ell0 w _ _ _ _ (by rw [quote_len]; omega) (by omega) ell_q) (by k_asm) (by k_asm) (by k_asm) (by k_asm) (by k_asm) (by exact rfl) (by ktr_room) (by ktr_units) ?_)); intro h9 tk9 F9 N9; (try dsimp only); (try k_fold); (try k_sweep)) | ((with_reducible show wpAny _ _ (call (Value.ref 74) _) _ _ _); (k_dflt (refine Says.use (c_halved w _ (by omega) _) (by k_asm) (by k_asm) (by k_asm) (by k_asm) (by k_asm) (by exact rfl) (by ktr_room) (by ktr_units) ?_)); intro aa xx h9 tk9 hxx F9 N9 hll; obtain ⟨t1, t2, rfl⟩ := hxx; clear hll; (try dsimp only); (try k_fold); (try k_sweep)) | ((with_reducible show wpAny _ _ (call (Value.ref 79) _) _ _ _); (k_dflt (refine Says.use (c_reaches w _ _ _ hc0 (by omega) (by omega) _ _ _) (by k_asm) (by k_asm) (by k_asm) (by k_asm) (by k_asm) (by exact rfl) (by ktr_room) (by ktr_units) ?_)); intro h9 tk9 F9 N9; (try dsimp only); (try k_fold); (try k_sweep)) | ((with_reducible show wpAny _ _ (call (Value.ref 86) _) _ _ _); (k_dflt (refine Says.use (c_gap w _ _ _ hc0 (by omega) (by omega) (by omega) _ _ _) (by k_asm) (by k_asm) (by k_asm) (by k_asm) (by k_asm) (by exact rfl) (by ktr_room) (by ktr_units) ?_)); intro t9 h9 tk9 F9 N9; (try dsimp only); (try k_fold); (try k_sweep)) | walk1 | (dsimp only; walk1)))
            all_goals first
              | (exfalso; omega)
              | (rename News _ _ _ _ => nE; refine kst_end ⟨_, _, _, _, _, _⟩ (by assumption) nE (by intro p hp; simp [hp]) (by intro p hp; simp [hp]) (by rfl) trivial (by kst_all) (by kst_same) ?_; dsimp only; rw [List.length_append]; exact ⟨by (show runP (40 - (pre.length + 1)) _ _ _ = _); rw [hf']; exact hP, by omega, by omega, by omega⟩)
          · rw [run_swap hnt hpar hle] at hP
            have hre : decide (nn ≤ na) = false := decide_eq_false hle
            w_strict (repeat' ((fail_if_success (with_reducible show Q _ _)); (fail_if_success (with_reducible show InvEndN _ _ _ _ _ _ _)); first | (k_unfold; (try dsimp only)) | ((with_reducible show wpAny _ _ (call (Value.ref 21) _) _ _ _); (k_dflt (refine Says.use (c_ell0 w _ _ _ _ (by rw [quote_len]; omega) (by omega) ell_q) (by k_asm) (by k_asm) (by k_asm) (by k_asm) (by k_asm) (by exact rfl) (by ktr_room) (by ktr_units) ?_)); intro h9 tk9 F9 N9; (try dsimp only); (try k_fold); (try k_sweep)) | ((with_reducible show wpAny _ _ (call (Value.ref 74) _) _ _ _); (k_dflt (refine Says.use (c_halved w _ (by omega) _) (by k_asm) (by k_asm) (by k_asm) (by k_asm) (by k_asm) (by exact rfl) (by ktr_room) (by ktr_units) ?_)); intro aa xx h9 tk9 hxx F9 N9 hll; obtain ⟨t1, t2, rfl⟩ := hxx; clear hll; (try dsimp only); (try k_fold); (try k_sweep)) | ((with_reducible show wpAny _ _ (call (Value.ref 79) _) _ _ _); (k_dflt (refine Says.use (c_reaches w _ _ _ hc0 (by omega) (by omega) _ _ _) (by k_asm) (by k_asm) (by k_asm) (by k_asm) (by k_asm) (by exact rfl) (by ktr_room) (by ktr_units) ?_)); intro h9 tk9 F9 N9; (try dsimp only); (try k_fold); (try k_sweep)) | ((with_reducible show wpAny _ _ (call (Value.ref 86) _) _ _ _); (k_dflt (refine Says.use (c_gap w _ _ _ hc0 (by omega) (by omega) (by omega) _ _ _) (by k_asm) (by k_asm) (by k_asm) (by k_asm) (by k_asm) (by exact rfl) (by ktr_room) (by ktr_units) ?_)); intro t9 h9 tk9 F9 N9; (try dsimp only); (try k_fold); (try k_sweep)) | walk1 | (dsimp only; walk1)))
            all_goals first
              | (exfalso; omega)
              | (rename News _ _ _ _ => nE; refine kst_end ⟨_, _, _, _, _, _⟩ (by assumption) nE (by intro p hp; simp [hp]) (by intro p hp; simp [hp]) (by rfl) trivial (by kst_all) (by kst_same) ?_; dsimp only; rw [List.length_append]; exact ⟨by (show runP (40 - (pre.length + 1)) _ _ _ = _); rw [hf']; first | (rw [if_pos (by omega)] at hP; exact hP) | (rw [if_neg (by omega)] at hP; exact hP), by omega, by omega, by omega⟩)
end Mine
end
section
open PySem PySem.W PyProof.Rows PySem.Calls PySem.Spec
set_option maxRecDepth 100000
set_option maxHeartbeats 8000000
namespace Mine
theorem fill8 : (Challenge.rw_rs0089_01.prog, hd.heap_39) = (Challenge.rw_rs0089_01.prog, hd.heap_39) := by
  w_top off
  k_fill
  rfl
theorem mulok {a b : Int} (h : a.natAbs ≤ 1000) : IntMulOk a b := IntMulOk.of_left (bits_small h)
/-- the product over the primes, as reckoned -/
theorem c_product (w : World) (a0 : Int) (n0 : Nat) (ha0 : 0 ≤ a0) (ha1 : a0 ≤ 35) (hn1 : 1 ≤ n0) (hn0 : n0 ≤ 35) (hok0 : okP 40 n0 3 = true) (t u : Tok) : Says 5 w 98 [.int a0 t, .int (n0 : Int) u] (RetInt (prodP a0 40 n0 3 1)) := by
  intro loose mean mg mb dp un gd cn cs a ccd cl outer A₀ base h₀ L m news s Q E hB hF hX hN hT hk hdp hun hret
  refine wpAny_call ?_
  k_dflt (refine' code_defC ?k1 ?k2 ?k3 ?k4 ?k5 ?kA ?kF ?kK ?k6 ?k7 ?k8 ?k9 ?kB ?kD ?_ ?c2 ?c3 ?c4; (case kA => exact rfl); (case kF => exact rfl); (case kK => assumption); (case k1 => k_asm); (case k2 => k_asm); (case k3 => k_asm); (case k4 => k_asm); (case k5 => k_asm); (case k6 => k_is); (case k7 => k_is); (case k8 => ktr_room); (case k9 => exact BindsTo.of_eq rfl); (case kB => exact rfl); (case kD => decide +kernel); (case c2 => exact rfl); (case c3 => exact rfl); (case c4 => exact rfl); k_whole)
  intro g' L' h' tk' cells' FG' F' N' Y' B' X' T' l1
  have hY := CellsAre.two Y'
  obtain ⟨o1, o2, hE, d1, d2⟩ := hY
  subst hE
  clear Y'
  simp only [List.cons_append, List.nil_append] at N'
  replace d2 : o2.data = Data.cell (some (Value.int a0 t)) := d2
  (try dsimp only)
  (try k_lift B')
  (try k_fold)
  have hapP : ∀ p ∈ (L' + 1, o2) :: news, p.1 ≠ L' + 1 + 1 := fun p hp => by
    rcases List.mem_cons.mp hp with rfl | hp
    · exact Nat.ne_of_lt (Nat.lt_succ_self _)
    · have := l1 p hp
      exact Nat.ne_of_lt (Nat.lt_succ_of_lt (Nat.lt_succ_of_lt this))
  w_strict (repeat' ((fail_if_success (with_reducible show Q _ _)); (fail_if_success (with_reducible show wpAny _ _ (exec (Stmt.While _ _ _ _) _) _ _ _)); (fail_if_success (with_reducible show KswEnd _ _ _ _ _ _ _ _ _ _ _ _)); (fail_if_success (with_reducible show wpAny _ _ (eval (Expr.ListComp _ _ _ _) _) _ _ _)); (fail_if_success (with_reducible show LCt.CompSrcT _ _ _ _ _ _ _ _ _ _ _ _ _ _ _)); (fail_if_success (with_reducible show KCiEl _ _ _ _ _)); (fail_if_success (with_reducible show KCiNo _ _ _ _)); first | (k_unfold; (try dsimp only)) | ((with_reducible show wpAny _ _ (storeName _ (Str.ofString "prime") _) _ _ _); (k_dflt (refine storeX_C (by k_asm) (by k_asm) (by rfl) (UpdF.head hapP) (by k_asm) ?_ (by rfl) (by rfl))); intro h9 o9 F9 N9 d9; (try dsimp only at N9); (try k_sweep)) | ((with_reducible show wpAny _ _ (binaryOp Operator.Mult (Value.int _ _) (Value.int _ _)) _ _ _); refine PySem.mul_int ?_ (mulok (by omega))) | ((with_reducible show LCg.CompEnd _ _ _ _ _ _ _ _ _ _ _ _ _ _); (rename News _ _ _ _ => nC); (refine LCg.CompEnd.intro (by assumption) nC _ (fun p hp => hp) (by first | assumption | (simp only [LCg.Off3, and_true]; assumption)) (by first | exact True.intro | lcg_src) ?_)) | walk1 | (dsimp only; walk1)))
  rename Fr _ _ _ _ => lF
  rename News _ _ _ _ => lN
  rename (_ = Data.cell (some (Value.int 3 _))) => dP
  with_unfolding_all refine' ksw_while (σ := Nat × Nat × Tok × Int × Tok × Nat × Tok × Obj) (fun st => (L' + 1 + 1, st.2.2.2.2.2.2.2) :: (L' + 1, o2) :: news) (fun st => [(Str.ofString "n", .int (st.2.1 : Int) st.2.2.1), (Str.ofString "product", .int st.2.2.2.1 st.2.2.2.2.1)]) (fun st => st.2.2.2.2.2.2.2.data = Data.cell (some (Value.int (st.2.2.2.2.2.1 : Int) st.2.2.2.2.2.2.1))) [] (fun st => prodP a0 st.1 st.2.1 st.2.2.2.2.2.1 st.2.2.2.1 = prodP a0 40 n0 3 1 ∧ okP st.1 st.2.1 st.2.2.2.2.2.1 = true ∧ 1 ≤ st.2.1 ∧ st.2.1 ≤ 35 ∧ 3 ≤ st.2.2.2.2.2.1 ∧ st.2.2.2.2.2.1 + 2 * st.1 ≤ 83 ∧ st.2.2.2.1.natAbs * st.2.1 ≤ 35) (fun st => st.1) (40, n0, _, 1, _, 3, _, _) lF lN dP ?kk ?kp ?_
  case kk => kst_all
  case kp => exact ⟨rfl, hok0, hn1, hn0, by dsimp only; omega, by dsimp only; omega, by simpa using hn0⟩
  clear lF lN
  rintro ⟨k, n, tn, pr, tp, p, tpr, ob⟩ uu hh tk dO ⟨hR, hok, hb1, hb2, hp3, hpk, habs⟩ F N
  dsimp only [kstB] at hR hok hb1 hb2 hp3 hpk habs dO F N ⊢
  have habs' := abs_small hb1 habs
  have hm := fmod_cast (n := n) (p := p) (by omega)
  have hq := fdiv_cast (n := n) (p := p) (by omega)
  by_cases hn : n ≤ 1
  · rw [prod_end hn] at hR
    w_strict (repeat' ((fail_if_success (with_reducible show Q _ _)); (fail_if_success (with_reducible show wpAny _ _ (exec (Stmt.While _ _ _ _) _) _ _ _)); (fail_if_success (with_reducible show KswEnd _ _ _ _ _ _ _ _ _ _ _ _)); (fail_if_success (with_reducible show wpAny _ _ (eval (Expr.ListComp _ _ _ _) _) _ _ _)); (fail_if_success (with_reducible show LCt.CompSrcT _ _ _ _ _ _ _ _ _ _ _ _ _ _ _)); (fail_if_success (with_reducible show KCiEl _ _ _ _ _)); (fail_if_success (with_reducible show KCiNo _ _ _ _)); first | (k_unfold; (try dsimp only)) | ((with_reducible show wpAny _ _ (storeName _ (Str.ofString "prime") _) _ _ _); (k_dflt (refine storeX_C (by k_asm) (by k_asm) (by rfl) (UpdF.head hapP) (by k_asm) ?_ (by rfl) (by rfl))); intro h9 o9 F9 N9 d9; (try dsimp only at N9); (try k_sweep)) | ((with_reducible show wpAny _ _ (binaryOp Operator.Mult (Value.int _ _) (Value.int _ _)) _ _ _); refine PySem.mul_int ?_ (mulok (by omega))) | ((with_reducible show LCg.CompEnd _ _ _ _ _ _ _ _ _ _ _ _ _ _); (rename News _ _ _ _ => nC); (refine LCg.CompEnd.intro (by assumption) nC _ (fun p hp => hp) (by first | assumption | (simp only [LCg.Off3, and_true]; assumption)) (by first | exact True.intro | lcg_src) ?_)) | walk1 | (dsimp only; walk1)))
    rw [hR]
    rename News h₀ L _ _ => kN
    exact hret _ _ _ (by assumption) (fun p hp => kN p (List.mem_cons_of_mem _ (List.mem_cons_of_mem _ hp)))
  · obtain ⟨k, rfl⟩ := ok_pos hn hok
    by_cases hd : n % p = 0
    · rw [prod_div hn hd] at hR
      have hok' := ok_div hn hd hok
      have hm0 : ((n : Int)).fmod (p : Int) = 0 := by rw [hm, hd]; rfl
      have hpn : p ≤ n := Nat.le_of_dvd (by omega) (Nat.dvd_of_mod_eq_zero hd)
      w_strict (repeat' ((fail_if_success (with_reducible show Q _ _)); (fail_if_success (with_reducible show wpAny _ _ (exec (Stmt.While _ _ _ _) _) _ _ _)); (fail_if_success (with_reducible show KswEnd _ _ _ _ _ _ _ _ _ _ _ _)); (fail_if_success (with_reducible show wpAny _ _ (eval (Expr.ListComp _ _ _ _) _) _ _ _)); (fail_if_success (with_reducible show LCt.CompSrcT _ _ _ _ _ _ _ _ _ _ _ _ _ _ _)); (fail_if_success (with_reducible show KCiEl _ _ _ _ _)); (fail_if_success (with_reducible show KCiNo _ _ _ _)); first | (k_unfold; (try dsimp only)) | ((with_reducible show wpAny _ _ (storeName _ (Str.ofString "prime") _) _ _ _); (k_dflt (refine storeX_C (by k_asm) (by k_asm) (by rfl) (UpdF.head hapP) (by k_asm) ?_ (by rfl) (by rfl))); intro h9 o9 F9 N9 d9; (try dsimp only at N9); (try k_sweep)) | ((with_reducible show wpAny _ _ (binaryOp Operator.Mult (Value.int _ _) (Value.int _ _)) _ _ _); refine PySem.mul_int ?_ (mulok (by omega))) | ((with_reducible show LCg.CompEnd _ _ _ _ _ _ _ _ _ _ _ _ _ _); (rename News _ _ _ _ => nC); (refine LCg.CompEnd.intro (by assumption) nC _ (fun p hp => hp) (by first | assumption | (simp only [LCg.Off3, and_true]; assumption)) (by first | exact True.intro | lcg_src) ?_)) | walk1 | (dsimp only; walk1)))
      all_goals first | (exfalso; omega) | skip
      k_here
      lct_look
      k_dflt (refine LCt.ListComp_T (F₀ := by k_asm) (by with_unfolding_all rfl) (by decide) (by rfl) (by decide) (by rfl) ?_)
      w_strict (repeat' ((fail_if_success (with_reducible show Q _ _)); (fail_if_success (with_reducible show wpAny _ _ (exec (Stmt.While _ _ _ _) _) _ _ _)); (fail_if_success (with_reducible show KswEnd _ _ _ _ _ _ _ _ _ _ _ _)); (fail_if_success (with_reducible show wpAny _ _ (eval (Expr.ListComp _ _ _ _) _) _ _ _)); (fail_if_success (with_reducible show LCt.CompSrcT _ _ _ _ _ _ _ _ _ _ _ _ _ _ _)); (fail_if_success (with_reducible show KCiEl _ _ _ _ _)); (fail_if_success (with_reducible show KCiNo _ _ _ _)); first | (k_unfold; (try dsimp only)) | ((with_reducible show wpAny _ _ (storeName _ (Str.ofString "prime") _) _ _ _); (k_dflt (refine storeX_C (by k_asm) (by k_asm) (by rfl) (UpdF.head hapP) (by k_asm) ?_ (by rfl) (by rfl))); intro h9 o9 F9 N9 d9; (try dsimp only at N9); (try k_sweep)) | ((with_reducible show wpAny _ _ (binaryOp Operator.Mult (Value.int _ _) (Value.int _ _)) _ _ _); refine PySem.mul_int ?_ (mulok (by omega))) | ((with_reducible show LCg.CompEnd _ _ _ _ _ _ _ _ _ _ _ _ _ _); (rename News _ _ _ _ => nC); (refine LCg.CompEnd.intro (by assumption) nC _ (fun p hp => hp) (by first | assumption | (simp only [LCg.Off3, and_true]; assumption)) (by first | exact True.intro | lcg_src) ?_)) | walk1 | (dsimp only; walk1)))
      rename IsRange _ _ _ _ _ _ _ _ => hRg
      refine LCt.CompSrcT.range (n := p) (by rfl) (by k_asm) (by k_asm) hRg (small_n p (by omega)) (size_n p (by omega)) (by rw [sizeLine_eq]; omega) ?_
      intro g9
      refine kci_range (gP a0 p) ?turn ?fin (gP_grows a0 p)
      case turn =>
        intro x tx I oI C oC D m2 ys l h9 tk9 E9 hlo hhi hI hC hx F N off ne mk
        w_strict (repeat' ((fail_if_success (with_reducible show Q _ _)); (fail_if_success (with_reducible show wpAny _ _ (exec (Stmt.While _ _ _ _) _) _ _ _)); (fail_if_success (with_reducible show KswEnd _ _ _ _ _ _ _ _ _ _ _ _)); (fail_if_success (with_reducible show wpAny _ _ (eval (Expr.ListComp _ _ _ _) _) _ _ _)); (fail_if_success (with_reducible show LCt.CompSrcT _ _ _ _ _ _ _ _ _ _ _ _ _ _ _)); (fail_if_success (with_reducible show KCiEl _ _ _ _ _)); (fail_if_success (with_reducible show KCiNo _ _ _ _)); first | (k_unfold; (try dsimp only)) | ((with_reducible show wpAny _ _ (storeName _ (Str.ofString "prime") _) _ _ _); (k_dflt (refine storeX_C (by k_asm) (by k_asm) (by rfl) (UpdF.head hapP) (by k_asm) ?_ (by rfl) (by rfl))); intro h9 o9 F9 N9 d9; (try dsimp only at N9); (try k_sweep)) | ((with_reducible show wpAny _ _ (binaryOp Operator.Mult (Value.int _ _) (Value.int _ _)) _ _ _); refine PySem.mul_int ?_ (mulok (by omega))) | ((with_reducible show LCg.CompEnd _ _ _ _ _ _ _ _ _ _ _ _ _ _); (rename News _ _ _ _ => nC); (refine LCg.CompEnd.intro (by assumption) nC _ (fun p hp => hp) (by first | assumption | (simp only [LCg.Off3, and_true]; assumption)) (by first | exact True.intro | lcg_src) ?_)) | walk1 | (dsimp only; walk1)))
        · exact ⟨rfl, x, tx, rfl, if_pos (by assumption)⟩
        · exact ⟨rfl, if_neg (by assumption)⟩
      case fin =>
        show ∀ ys, _ → _ → _
        intro ys hys hyl
        unfold LCg.FinE
        intro D9 h9 tk9 F9 N9 off9
        dsimp only
        w_strict (repeat' ((fail_if_success (with_reducible show Q _ _)); (fail_if_success (with_reducible show wpAny _ _ (exec (Stmt.While _ _ _ _) _) _ _ _)); (fail_if_success (with_reducible show KswEnd _ _ _ _ _ _ _ _ _ _ _ _)); (fail_if_success (with_reducible show wpAny _ _ (eval (Expr.ListComp _ _ _ _) _) _ _ _)); (fail_if_success (with_reducible show LCt.CompSrcT _ _ _ _ _ _ _ _ _ _ _ _ _ _ _)); (fail_if_success (with_reducible show KCiEl _ _ _ _ _)); (fail_if_success (with_reducible show KCiNo _ _ _ _)); first | (k_unfold; (try dsimp only)) | ((with_reducible show wpAny _ _ (storeName _ (Str.ofString "prime") _) _ _ _); (k_dflt (refine storeX_C (by k_asm) (by k_asm) (by rfl) (UpdF.head hapP) (by k_asm) ?_ (by rfl) (by rfl))); intro h9 o9 F9 N9 d9; (try dsimp only at N9); (try k_sweep)) | ((with_reducible show wpAny _ _ (binaryOp Operator.Mult (Value.int _ _) (Value.int _ _)) _ _ _); refine PySem.mul_int ?_ (mulok (by omega))) | ((with_reducible show LCg.CompEnd _ _ _ _ _ _ _ _ _ _ _ _ _ _); (rename News _ _ _ _ => nC); (refine LCg.CompEnd.intro (by assumption) nC _ (fun p hp => hp) (by first | assumption | (simp only [LCg.Off3, and_true]; assumption)) (by first | exact True.intro | lcg_src) ?_)) | walk1 | (dsimp only; walk1)))
        refine Calls.call_len_list (items := ys.toArray) ⟨_, (N9 _ (List.mem_cons_self ..)).1, rfl, _, rfl⟩ (by simp; omega) ?_
        have hlc : ((ys.toArray.size : Nat) : Int) = cntP a0 p := by
          have := hys.length
          unfold cntP
          simp
          omega
        have hcl := cntP_le a0 p
        rw [hlc]
        w_strict (repeat' ((fail_if_success (with_reducible show Q _ _)); (fail_if_success (with_reducible show wpAny _ _ (exec (Stmt.While _ _ _ _) _) _ _ _)); (fail_if_success (with_reducible show KswEnd _ _ _ _ _ _ _ _ _ _ _ _)); (fail_if_success (with_reducible show wpAny _ _ (eval (Expr.ListComp _ _ _ _) _) _ _ _)); (fail_if_success (with_reducible show LCt.CompSrcT _ _ _ _ _ _ _ _ _ _ _ _ _ _ _)); (fail_if_success (with_reducible show KCiEl _ _ _ _ _)); (fail_if_success (with_reducible show KCiNo _ _ _ _)); first | (k_unfold; (try dsimp only)) | ((with_reducible show wpAny _ _ (storeName _ (Str.ofString "prime") _) _ _ _); (k_dflt (refine storeX_C (by k_asm) (by k_asm) (by rfl) (UpdF.head hapP) (by k_asm) ?_ (by rfl) (by rfl))); intro h9 o9 F9 N9 d9; (try dsimp only at N9); (try k_sweep)) | ((with_reducible show wpAny _ _ (binaryOp Operator.Mult (Value.int _ _) (Value.int _ _)) _ _ _); refine PySem.mul_int ?_ (mulok (by omega))) | ((with_reducible show LCg.CompEnd _ _ _ _ _ _ _ _ _ _ _ _ _ _); (rename News _ _ _ _ => nC); (refine LCg.CompEnd.intro (by assumption) nC _ (fun p hp => hp) (by first | assumption | (simp only [LCg.Off3, and_true]; assumption)) (by first | exact True.intro | lcg_src) ?_)) | walk1 | (dsimp only; walk1)))
        rename Fr _ _ _ _ => lF
        rw [hq] at lF
        rename News _ _ _ _ => nE
        refine ksw_end (k, n / p, _, pr * (cntP a0 p - 1), _, p, _, ob) lF nE (by exact fun p hp => List.mem_cons_of_mem _ hp) (by exact dO) (by kst_all) (by ksw_same) ?_ ?_
        · exact ⟨hR, hok', (Nat.div_pos hpn (by omega)), Nat.le_trans (Nat.div_le_self n p) hb2, hp3, by dsimp only; omega, abs_div (by omega) habs⟩
        · dsimp only; omega
    · rw [prod_next hn hd] at hR
      have hok' := ok_next hn hd hok
      have hm0 : ((n : Int)).fmod (p : Int) ≠ 0 := by rw [hm]; omega
      w_strict (repeat' ((fail_if_success (with_reducible show Q _ _)); (fail_if_success (with_reducible show wpAny _ _ (exec (Stmt.While _ _ _ _) _) _ _ _)); (fail_if_success (with_reducible show KswEnd _ _ _ _ _ _ _ _ _ _ _ _)); (fail_if_success (with_reducible show wpAny _ _ (eval (Expr.ListComp _ _ _ _) _) _ _ _)); (fail_if_success (with_reducible show LCt.CompSrcT _ _ _ _ _ _ _ _ _ _ _ _ _ _ _)); (fail_if_success (with_reducible show KCiEl _ _ _ _ _)); (fail_if_success (with_reducible show KCiNo _ _ _ _)); first | (k_unfold; (try dsimp only)) | ((with_reducible show wpAny _ _ (storeName _ (Str.ofString "prime") _) _ _ _); (k_dflt (refine storeX_C (by k_asm) (by k_asm) (by rfl) (UpdF.head hapP) (by k_asm) ?_ (by rfl) (by rfl))); intro h9 o9 F9 N9 d9; (try dsimp only at N9); (try k_sweep)) | ((with_reducible show wpAny _ _ (binaryOp Operator.Mult (Value.int _ _) (Value.int _ _)) _ _ _); refine PySem.mul_int ?_ (mulok (by omega))) | ((with_reducible show LCg.CompEnd _ _ _ _ _ _ _ _ _ _ _ _ _ _); (rename News _ _ _ _ => nC); (refine LCg.CompEnd.intro (by assumption) nC _ (fun p hp => hp) (by first | assumption | (simp only [LCg.Off3, and_true]; assumption)) (by first | exact True.intro | lcg_src) ?_)) | walk1 | (dsimp only; walk1)))
      all_goals first | (exfalso; omega) | skip
      rename News _ _ _ _ => nE
      refine ksw_end (k, n, _, pr, _, p + 2, _, _) (by assumption) nE (by exact fun p hp => hp) (by exact d9) (by kst_all) (by ksw_same) ?_ ?_
      · exact ⟨hR, hok', hb1, hb2, by dsimp only; omega, by dsimp only; omega, habs⟩
      · dsimp only; omega
end Mine
end
/- P9 -/
open PySem PySem.W PyProof.Rows PySem.Calls PySem.Spec
set_option maxRecDepth 100000
set_option maxHeartbeats 8000000
namespace Mine
theorem fill9 : (Challenge.rw_rs0089_01.prog, hd.heap_39) = (Challenge.rw_rs0089_01.prog, hd.heap_39) := by
  w_top off
  k_fill
  rfl
section
variable {prog : Program} {w : World} {A : Around} {E : Value → Shared → Prop} {s : Shared} {h₀ : Heap} {L D : Addr} {news : List (Addr × Obj)} {vs : List Value} {n : Nat} {u : Tok} {value slice : PySem.Expr} {Q : Value → Shared → Prop} {d0 d1 d2 : Int}
theorem item0 (N : News h₀ L s.heap news) (hm : (D, listOf vs.toArray n) ∈ news) (hi : IntsAre vs [d0, d1, d2]) (h : ∀ t, Q (.int d0 t) s) (hs : subscripted slice false (.ref D) (.int 0 u) = operate [.ref D, .int 0 u] (getItem (.ref D) (.int 0 u))) :
    wpAny (model prog w) A (subscriptTail value slice (.ref D) (.int 0 u)) Q E s := ksa_sub N hm hi (by decide) (by simp) (by decide) h hs
theorem item1 (N : News h₀ L s.heap news) (hm : (D, listOf vs.toArray n) ∈ news) (hi : IntsAre vs [d0, d1, d2]) (h : ∀ t, Q (.int d1 t) s) (hs : subscripted slice false (.ref D) (.int 1 u) = operate [.ref D, .int 1 u] (getItem (.ref D) (.int 1 u))) :
    wpAny (model prog w) A (subscriptTail value slice (.ref D) (.int 1 u)) Q E s := ksa_sub N hm hi (by decide) (by simp) (by decide) h hs
theorem item2 (N : News h₀ L s.heap news) (hm : (D, listOf vs.toArray n) ∈ news) (hi : IntsAre vs [d0, d1, d2]) (h : ∀ t, Q (.int d2 t) s) (hs : subscripted slice false (.ref D) (.int 2 u) = operate [.ref D, .int 2 u] (getItem (.ref D) (.int 2 u))) :
    wpAny (model prog w) A (subscriptTail value slice (.ref D) (.int 2 u)) Q E s := ksa_sub N hm hi (by decide) (by simp) (by decide) h hs
end
end Mine
open Mine
set_option maxHeartbeats 16000000 in
theorem PySem.Challenge.cw_rs0089_01_holds : PySem.Challenge.rw_rs0089_01.Holds := by
  refine Mine.hd ?_
  w_on
  k_go0
  (all_goals try k_fold)
  w_strict (repeat' ((fail_if_success (with_reducible show wpAny _ _ (exec (Stmt.Assign [Expr.Name (Str.ofString "n") _] _ _) _) _ _ _)); first | (k_unfold; (try dsimp only)) | ((with_reducible show wpAny _ _ (subscriptTail (PySem.Expr.List _ _) _ _ _) _ _ _); k_dflt (refine kba_turn (value' := PySem.Expr.Name (PySem.Str.ofString "x") ⟨0, 0, 0, 0⟩) (fun _ => rfl) ?_)) | walk1 | (dsimp only; walk1)))
  rename (IntsAre _ (_ ++ _)) => hI3
  obtain ⟨d0, d1, d2, hL3, hd2⟩ := drawn3 _
  rw [hL3] at hI3
  obtain ⟨mm, hmm, hN⟩ := drawN d0
  obtain ⟨ii, hii, hA⟩ := drawA d1
  w_strict (repeat' ((fail_if_success (with_reducible show wpAny _ _ (exec (Stmt.Assign [Expr.Tuple _ _ _] _ _) _) _ _ _)); first | (k_unfold; (try dsimp only)) | walk1 | (dsimp only; walk1)))
  rename (_ = Data.cell (some (Value.int (3 + _) _))) => dn
  rename (_ = Data.cell (some (Value.int (1 + _) _))) => da
  rw [show 3 + 2 * ([d0, d1, d2].getD (Int.toNat 0) 0).fmod 17 = ((3 + 2 * mm : Nat) : Int) from hN] at dn
  rw [show 1 + ([d0, d1, d2].getD (Int.toNat 1) 0).fmod 35 = ((1 + ii : Nat) : Int) from hA] at da
  w_strict (repeat' ((fail_if_success (with_reducible show wpAny _ _ (call (Value.ref 93) _) _ _ _)); first | (k_unfold; (try dsimp only)) | walk1 | (dsimp only; walk1)))
  rw [mul_qn, mul_qn]
  (k_dflt (refine Says.use (c_run _ (1 + ii) (3 + 2 * mm) ([d0, d1, d2].getD (Int.toNat 2) 0) (show 0 ≤ [d0, d1, d2].getD (Int.toNat 2) 0 from hd2) (by omega) (by omega) (by omega) _ _ _) (by k_asm) (by k_asm) (by k_asm) (by k_asm) (by k_asm) (by exact rfl) (by ktr_room) (by ktr_units) ?_))
  intro aa xx h9 tk9 hxx F9 N9
  obtain ⟨t1, t2, rfl⟩ := hxx
  (try dsimp only)
  (try k_fold)
  w_strict (repeat' ((fail_if_success (with_reducible show wpAny _ _ (eval (Expr.ListComp _ _ _ _) _) _ _ _)); first | (k_unfold; (try dsimp only)) | walk1 | (dsimp only; walk1)))
  k_here
  lct_look
  k_dflt (refine LCt.ListComp_T (F₀ := by k_asm) (by with_unfolding_all rfl) (by decide) (by rfl) (by decide) (by rfl) ?_)
  w_strict (repeat' ((fail_if_success (with_reducible show LCt.CompSrcT _ _ _ _ _ _ _ _ _ _ _ _ _ _ _)); first | (k_unfold; (try dsimp only)) | walk1 | (dsimp only; walk1)))
  rename IsRange _ _ _ _ _ _ _ _ => hRg
  refine LCt.CompSrcT.range (n := 3 + 2 * mm) (by rfl) (by k_asm) (by k_asm) hRg (small_1n _ (by omega)) (size_1n _ (by omega)) (by rw [sizeLine_eq]; omega) ?_
  intro g9
  refine kci_range (gD ((3 + 2 * mm : Nat) : Int) ((1 + ii : Nat) : Int)) ?turn ?fin (gD_grows _ _)
  case turn =>
    intro x tx I oI C oC D m2 ys l h9 tk9 E9 hlo hhi hI hC hx F N off ne mk
    w_strict (repeat' ((fail_if_success (with_reducible show KCiEl _ _ _ _ _)); (fail_if_success (with_reducible show KCiNo _ _ _ _)); first | (k_unfold; (try dsimp only)) | ((with_reducible show LCg.CompEnd _ _ _ _ _ _ _ _ _ _ _ _ _ _); (rename News _ _ _ _ => nC); (refine LCg.CompEnd.intro (by assumption) nC _ (fun p hp => hp) (by first | assumption | (simp only [LCg.Off3, and_true]; assumption)) (by first | exact True.intro | lcg_src) ?_)) | walk1 | (dsimp only; walk1)))
    all_goals first
      | exact ⟨rfl, x, tx, rfl, if_pos ⟨by assumption, by assumption⟩⟩
      | exact ⟨rfl, if_neg (fun h => absurd h.1 (by assumption))⟩
      | exact ⟨rfl, if_neg (fun h => absurd h.2 (by assumption))⟩
  case fin =>
    show ∀ ys, _ → _ → _
    intro ys hys hyl
    unfold LCg.FinE
    intro D9 h9 tk9 F9 N9 off9
    dsimp only
    obtain ⟨hok, hlen, hdm, hdl, hp1, hp0, hr2⟩ := law_all hmm hii
    w_strict (repeat' ((fail_if_success (with_reducible show wpAny _ _ (call (Value.builtin "max") _) _ _ _)); first | (k_unfold; (try dsimp only)) | walk1 | (dsimp only; walk1)))
    refine kso_max (by k_asm) (by k_asm) ⟨_, (N9 _ (List.mem_cons_self ..)).1, rfl, _, rfl⟩ hys hlen rfl ?_
    intro h10 M tM tk10 F10 N10 hM1 hM2
    have hMd : M = dueN (3 + 2 * mm) (1 + ii) := Int.le_antisymm (hdl M hM1) (hM2 _ hdm)
    clear hM1 hM2 hdm hdl hlen hys hyl
    subst hMd
    dsimp only
    (try k_fold)
    by_cases hdu : 1 < dueN (3 + 2 * mm) (1 + ii)
    · have hpp := hp1 hdu
      w_strict (repeat' ((fail_if_success (with_reducible show wpAny _ _ (call (Value.ref 98) _) _ _ _)); first | (k_unfold; (try dsimp only)) | walk1 | (dsimp only; walk1)))
      rename News _ _ _ _ => lN
      rw [hr2] at lN
      (k_dflt (refine Says.use (c_product _ ((1 + ii : Nat) : Int) (3 + 2 * mm) (by omega) (by omega) (by omega) (by omega) hok _ _) (by k_asm) (by k_asm) (by k_asm) (by exact lN) (by k_asm) (by exact rfl) (by ktr_room) (by ktr_units) ?_))
      intro t11 h11 tk11 F11 N11
      rw [← hpp]
      clear lN hp1 hp0 hr2 hpp hok
      (try dsimp only)
      (try k_fold)
      k_steps
    · have hpp := hp0 hdu
      w_strict (repeat' ((fail_if_success (with_reducible show wpAny _ _ (call (Value.ref 98) _) _ _ _)); first | (k_unfold; (try dsimp only)) | walk1 | (dsimp only; walk1)))
      rename News _ _ _ _ => lN
      rw [hr2] at lN
      rw [hpp] at lN
      (k_dflt (refine Says.use (c_product _ ((1 + ii : Nat) : Int) (3 + 2 * mm) (by omega) (by omega) (by omega) (by omega) hok _ _) (by k_asm) (by k_asm) (by k_asm) (by exact lN) (by k_asm) (by exact rfl) (by ktr_room) (by ktr_units) ?_))
      intro t11 h11 tk11 F11 N11
      clear lN hp1 hp0 hr2 hpp hok
      (try dsimp only)
      (try k_fold)
      k_steps
