import PyProof.Rows.All
import Wide.All
import OpenK.AllK
import Wide.FinOn
import Lean
import PySem.Challenge.RW_yf0014_01
set_option Elab.async false
open PySem.W PyProof.Rows
local macro_rules | `(tactic| walk_at $s:str) => `(tactic| k_extra $s)
section
namespace Mine
/-- the number of figures of n -/
noncomputable def figN (n : Nat) : Nat := if n < 10 then 1 else figN (n / 10) + 1
theorem figN_pos (n : Nat) : 1 ≤ figN n := by
  rw [figN]; split <;> omega
theorem figN_lt (n : Nat) : n < 10 ^ figN n := by
  induction n using Nat.strongRecOn with
  | ind n ih =>
    rw [figN]
    split
    · simpa using ‹n < 10›
    · have := ih (n / 10) (by omega)
      rw [Nat.pow_succ]; omega
theorem figN_le (n : Nat) (h : 1 ≤ n) : 10 ^ (figN n - 1) ≤ n := by
  induction n using Nat.strongRecOn with
  | ind n ih =>
    rw [figN]
    split
    · simpa using h
    · have h1 := ih (n / 10) (by omega) (by omega)
      have h2 := figN_pos (n / 10)
      rw [Nat.add_sub_cancel]
      have h3 : 10 ^ figN (n / 10) = 10 ^ (figN (n / 10) - 1) * 10 := by
        rw [← Nat.pow_succ]; congr 1; omega
      rw [h3]; omega
theorem pow10_lt {a b : Nat} (h : 10 ^ a < 10 ^ b) : a < b := (Nat.pow_lt_pow_iff_right (by decide)).mp h
theorem figN_uniq {n c : Nat} (hc : 1 ≤ c) (h1 : 10 ^ (c - 1) ≤ n) (h2 : n < 10 ^ c) : figN n = c := by
  have hn : 1 ≤ n := Nat.le_trans (Nat.pos_of_ne_zero (by simp)) h1
  have a := figN_le n hn
  have b := figN_lt n
  have c1 := pow10_lt (Nat.lt_of_le_of_lt a h2)
  have c2 := pow10_lt (Nat.lt_of_le_of_lt h1 b)
  have := figN_pos n
  omega
noncomputable def figs (v : Int) : Int := figN v.toNat
theorem figs_pos (v : Int) : 1 ≤ figs v := by
  have := figN_pos v.toNat
  unfold figs; omega
theorem figs_lt {v : Int} : v < 10 ^ (figs v).toNat := by
  have := figN_lt v.toNat
  unfold figs
  rw [Int.toNat_natCast]
  have h : ((10 ^ figN v.toNat : Nat) : Int) = (10 : Int) ^ figN v.toNat := by norm_cast
  omega
theorem figs_le {v : Int} (h : 1 ≤ v) : 10 ^ (figs v - 1).toNat ≤ v := by
  have a := figN_le v.toNat (by omega)
  have b := figN_pos v.toNat
  unfold figs
  have e : ((figN v.toNat : Int) - 1).toNat = figN v.toNat - 1 := by omega
  rw [e]
  have h : ((10 ^ (figN v.toNat - 1) : Nat) : Int) = (10 : Int) ^ (figN v.toNat - 1) := by norm_cast
  omega
theorem ten_cast (k : Nat) : (10 : Int) ^ k = ((10 ^ k : Nat) : Int) := by norm_cast
theorem figs_uniq {v c : Int} (hc : 1 ≤ c) (h1 : 10 ^ (c - 1).toNat ≤ v) (h2 : v < 10 ^ c.toNat) : figs v = c := by
  rw [ten_cast] at h1 h2
  have e : figN v.toNat = c.toNat := by
    refine figN_uniq (by omega) ?_ ?_
    · rw [show c.toNat - 1 = (c - 1).toNat by omega]
      exact (Int.le_toNat (by generalize (c - 1).toNat = q at h1; have := Int.natCast_nonneg (10 ^ q); omega)).mpr h1
    · have hv : v ≤ (v.toNat : Int) := Int.self_le_toNat v
      exact Int.ofNat_lt.mp (by have h1v : 0 < v := Int.lt_of_lt_of_le (Int.natCast_pos.mpr (Nat.pos_of_ne_zero (by simp))) h1; rw [Int.toNat_of_nonneg (by omega)]; exact h2)
  unfold figs
  omega
theorem fig_start {v : Int} (h : 1 ≤ v) : (1 : Int) ≤ 1 ∧ (1 : Int) ≤ 21 ∧ 10 ^ ((1 : Int) - 1).toNat ≤ v := ⟨by decide, by decide, by simpa using h⟩
theorem fig_step {v c : Int} (hc : 1 ≤ c) (h21 : c ≤ 21) (hp : 10 ^ c.toNat ≤ v) (hv : v < 10 ^ 20) : 1 ≤ c + 1 ∧ c + 1 ≤ 21 ∧ 10 ^ (c + 1 - 1).toNat ≤ v := by
  have h : (10 : Int) ^ c.toNat < 10 ^ 20 := Int.lt_of_le_of_lt hp hv
  rw [ten_cast, ten_cast] at h
  have h' : (10 : Nat) ^ c.toNat < 10 ^ 20 := Int.ofNat_lt.mp h
  have := pow10_lt h'
  refine ⟨by omega, by omega, ?_⟩
  rw [show c + 1 - 1 = c by omega]; exact hp
end Mine
end
section
open PySem PySem.W PyProof.Rows
set_option linter.all false
namespace Mine
/-- a text sign by sign -/
noncomputable def flat (f : Nat → List Nat) (x : PySem.Str) : PySem.Str := ⟨(x.cps.toList.flatMap f).toArray⟩
theorem str_eq {x y : PySem.Str} (h : x.cps.toList = y.cps.toList) : x = y := by
  obtain ⟨⟨a⟩⟩ := x; obtain ⟨⟨b⟩⟩ := y
  simp only at h; subst h; rfl
theorem flat_list (f : Nat → List Nat) (x : PySem.Str) : (flat f x).cps.toList = x.cps.toList.flatMap f := by unfold flat; simp
theorem flat_id {f : Nat → List Nat} {x : PySem.Str} (h : ∀ a ∈ x.cps.toList, f a = [a]) : flat f x = x := by
  refine str_eq ?_
  rw [flat_list]
  generalize x.cps.toList = l at h
  induction l with
  | nil => rfl
  | cons a r ih => rw [List.flatMap_cons, h a (.head _), ih fun b hb => h b (.tail _ hb)]; rfl
theorem flat_flat (f g : Nat → List Nat) (x : PySem.Str) : flat g (flat f x) = flat (fun a => (f a).flatMap g) x := by
  refine str_eq ?_
  rw [flat_list, flat_list, flat_list, List.flatMap_assoc]
theorem flat_congr {f g : Nat → List Nat} {x : PySem.Str} (h : ∀ a, f a = g a) : flat f x = flat g x := by rw [show f = g from funext h]
/-- one sign turned -/
noncomputable def one (c : Nat) (z : PySem.Str) (a : Nat) : List Nat := if a = c then z.cps.toList else [a]
theorem one_free (c : Nat) (z : PySem.Str) : ∀ l : List Nat, c ∉ l → l.flatMap (one c z) = l
  | [], _ => rfl
  | a :: r, h => by
    rw [List.flatMap_cons, one_free c z r fun q => h (.tail _ q), one, if_neg fun (e : a = c) => h (e ▸ .head _)]; rfl
theorem one_join (c : Nat) (z : PySem.Str) : ∀ parts : List PySem.Str, (∀ p ∈ parts, c ∉ p.cps.toList) → (Str.join ⟨#[c]⟩ parts).cps.toList.flatMap (one c z) = (Str.join z parts).cps.toList
  | [], _ => rfl
  | [p], h => one_free c z _ (h p (List.mem_singleton.mpr rfl))
  | p :: q :: r, h => by
    have ih := one_join c z (q :: r) fun a ha => h a (List.mem_cons_of_mem _ ha)
    show (p ++ ⟨#[c]⟩ ++ Str.join ⟨#[c]⟩ (q :: r)).cps.toList.flatMap (one c z) = (p ++ z ++ Str.join z (q :: r)).cps.toList
    simp only [Str.cps_append, Array.toList_append]
    rw [List.flatMap_append, List.flatMap_append, ih, one_free c z _ (h p (List.mem_cons_self ..))]
    have e : [c].flatMap (one c z) = z.cps.toList := by simp [one]
    show p.cps.toList ++ [c].flatMap (one c z) ++ _ = _
    rw [e]
theorem replace_flat (x z : PySem.Str) (c : Nat) : Txt.replace x ⟨#[c]⟩ z = flat (one c z) x := by
  refine str_eq ?_
  rw [flat_list, StrLaws.replace_one, ← one_join c z _ (StrLaws.split_free x c), StrLaws.join_split]
theorem replace_none {x z : PySem.Str} {c : Nat} (h : c ∉ x.cps.toList) : Txt.replace x ⟨#[c]⟩ z = x := by
  rw [replace_flat]
  exact flat_id fun a ha => if_neg fun (e : a = c) => h (e ▸ ha)
/-- what the five escapes make of a sign -/
noncomputable def escC (hand : Int) (c : Nat) : List Nat :=
  if c = 38 then [38,97,109,112,59]
  else if c = 60 then (if hand = 2 then [60] else [38,108,116,59])
  else if c = 62 then (if hand = 4 then [62] else [38,103,116,59])
  else if c = 34 then (if hand = 0 ∨ hand = 3 then [34] else [38,113,117,111,116,59])
  else if c = 13 then (if hand = 1 then [38,35,49,51,59] else if hand = 3 ∨ hand = 4 then [38,35,120,68,59] else [13])
  else if c = 10 then (if hand = 1 then [38,35,49,48,59] else if hand = 4 then [38,35,120,65,59] else [10])
  else if c = 9 then (if hand = 1 then [38,35,48,57,59] else if hand = 4 then [38,35,120,57,59] else [9])
  else [c]
noncomputable def esc (hand : Int) (x : PySem.Str) : PySem.Str := flat (escC hand) x
noncomputable def rep (c : String) (z : String) (x : PySem.Str) : PySem.Str := Txt.replace x (PySem.Str.ofString c) (PySem.Str.ofString z)
noncomputable def R0 (x : PySem.Str) := rep ">" "&gt;" (rep "<" "&lt;" (rep "&" "&amp;" x))
noncomputable def R1 (x : PySem.Str) := rep "\t" "&#09;" (rep "\n" "&#10;" (rep "\r" "&#13;" (rep "\"" "&quot;" (rep ">" "&gt;" (rep "<" "&lt;" (rep "&" "&amp;" x))))))
noncomputable def R2 (x : PySem.Str) := rep "\"" "&quot;" (rep ">" "&gt;" (rep "&" "&amp;" x))
noncomputable def R3 (x : PySem.Str) := rep "\r" "&#xD;" (rep ">" "&gt;" (rep "<" "&lt;" (rep "&" "&amp;" x)))
noncomputable def R4 (x : PySem.Str) := rep "\r" "&#xD;" (rep "\n" "&#xA;" (rep "\t" "&#x9;" (rep "\"" "&quot;" (rep "<" "&lt;" (rep "&" "&amp;" x)))))
theorem lamp : PySem.Str.ofString "&" = ⟨#[38]⟩ := by decide +kernel
theorem llt : PySem.Str.ofString "<" = ⟨#[60]⟩ := by decide +kernel
theorem lgt : PySem.Str.ofString ">" = ⟨#[62]⟩ := by decide +kernel
theorem lquo : PySem.Str.ofString "\"" = ⟨#[34]⟩ := by decide +kernel
theorem lcr : PySem.Str.ofString "\r" = ⟨#[13]⟩ := by decide +kernel
theorem lnl : PySem.Str.ofString "\n" = ⟨#[10]⟩ := by decide +kernel
theorem ltab : PySem.Str.ofString "\t" = ⟨#[9]⟩ := by decide +kernel
theorem zamp : PySem.Str.ofString "&amp;" = ⟨#[38,97,109,112,59]⟩ := by decide +kernel
theorem zlt : PySem.Str.ofString "&lt;" = ⟨#[38,108,116,59]⟩ := by decide +kernel
theorem zgt : PySem.Str.ofString "&gt;" = ⟨#[38,103,116,59]⟩ := by decide +kernel
theorem zquo : PySem.Str.ofString "&quot;" = ⟨#[38,113,117,111,116,59]⟩ := by decide +kernel
theorem z13 : PySem.Str.ofString "&#13;" = ⟨#[38,35,49,51,59]⟩ := by decide +kernel
theorem z10 : PySem.Str.ofString "&#10;" = ⟨#[38,35,49,48,59]⟩ := by decide +kernel
theorem z09 : PySem.Str.ofString "&#09;" = ⟨#[38,35,48,57,59]⟩ := by decide +kernel
theorem zxD : PySem.Str.ofString "&#xD;" = ⟨#[38,35,120,68,59]⟩ := by decide +kernel
theorem zxA : PySem.Str.ofString "&#xA;" = ⟨#[38,35,120,65,59]⟩ := by decide +kernel
theorem zx9 : PySem.Str.ofString "&#x9;" = ⟨#[38,35,120,57,59]⟩ := by decide +kernel
theorem r0_esc (x : PySem.Str) : R0 x = esc 0 x := by
  unfold R0
  unfold esc
  simp only [rep, lamp, llt, lgt, lquo, lcr, lnl, ltab, zamp, zlt, zgt, zquo, z13, z10, z09, zxD, zxA, zx9, replace_flat, flat_flat]
  refine flat_congr fun a => ?_
  unfold escC
  by_cases h1 : a = 38
  · subst h1; decide
  by_cases h2 : a = 60
  · subst h2; decide
  by_cases h3 : a = 62
  · subst h3; decide
  by_cases h4 : a = 34
  · subst h4; decide
  by_cases h5 : a = 13
  · subst h5; decide
  by_cases h6 : a = 10
  · subst h6; decide
  by_cases h7 : a = 9
  · subst h7; decide
  simp [one, h1, h2, h3, h4, h5, h6, h7]
theorem r1_esc (x : PySem.Str) : R1 x = esc 1 x := by
  unfold R1
  unfold esc
  simp only [rep, lamp, llt, lgt, lquo, lcr, lnl, ltab, zamp, zlt, zgt, zquo, z13, z10, z09, zxD, zxA, zx9, replace_flat, flat_flat]
  refine flat_congr fun a => ?_
  unfold escC
  by_cases h1 : a = 38
  · subst h1; decide
  by_cases h2 : a = 60
  · subst h2; decide
  by_cases h3 : a = 62
  · subst h3; decide
  by_cases h4 : a = 34
  · subst h4; decide
  by_cases h5 : a = 13
  · subst h5; decide
  by_cases h6 : a = 10
  · subst h6; decide
  by_cases h7 : a = 9
  · subst h7; decide
  simp [one, h1, h2, h3, h4, h5, h6, h7]
theorem r2_esc (x : PySem.Str) : R2 x = esc 2 x := by
  unfold R2
  unfold esc
  simp only [rep, lamp, llt, lgt, lquo, lcr, lnl, ltab, zamp, zlt, zgt, zquo, z13, z10, z09, zxD, zxA, zx9, replace_flat, flat_flat]
  refine flat_congr fun a => ?_
  unfold escC
  by_cases h1 : a = 38
  · subst h1; decide
  by_cases h2 : a = 60
  · subst h2; decide
  by_cases h3 : a = 62
  · subst h3; decide
  by_cases h4 : a = 34
  · subst h4; decide
  by_cases h5 : a = 13
  · subst h5; decide
  by_cases h6 : a = 10
  · subst h6; decide
  by_cases h7 : a = 9
  · subst h7; decide
  simp [one, h1, h2, h3, h4, h5, h6, h7]
theorem r3_esc (x : PySem.Str) : R3 x = esc 3 x := by
  unfold R3
  unfold esc
  simp only [rep, lamp, llt, lgt, lquo, lcr, lnl, ltab, zamp, zlt, zgt, zquo, z13, z10, z09, zxD, zxA, zx9, replace_flat, flat_flat]
  refine flat_congr fun a => ?_
  unfold escC
  by_cases h1 : a = 38
  · subst h1; decide
  by_cases h2 : a = 60
  · subst h2; decide
  by_cases h3 : a = 62
  · subst h3; decide
  by_cases h4 : a = 34
  · subst h4; decide
  by_cases h5 : a = 13
  · subst h5; decide
  by_cases h6 : a = 10
  · subst h6; decide
  by_cases h7 : a = 9
  · subst h7; decide
  simp [one, h1, h2, h3, h4, h5, h6, h7]
theorem r4_esc (x : PySem.Str) : R4 x = esc 4 x := by
  unfold R4
  unfold esc
  simp only [rep, lamp, llt, lgt, lquo, lcr, lnl, ltab, zamp, zlt, zgt, zquo, z13, z10, z09, zxD, zxA, zx9, replace_flat, flat_flat]
  refine flat_congr fun a => ?_
  unfold escC
  by_cases h1 : a = 38
  · subst h1; decide
  by_cases h2 : a = 60
  · subst h2; decide
  by_cases h3 : a = 62
  · subst h3; decide
  by_cases h4 : a = 34
  · subst h4; decide
  by_cases h5 : a = 13
  · subst h5; decide
  by_cases h6 : a = 10
  · subst h6; decide
  by_cases h7 : a = 9
  · subst h7; decide
  simp [one, h1, h2, h3, h4, h5, h6, h7]
theorem flat_len {f : Nat → List Nat} {x : PySem.Str} {k : Nat} (h : ∀ a, (f a).length ≤ k) : (flat f x).length ≤ k * x.length := by
  show (x.cps.toList.flatMap f).toArray.size ≤ k * x.cps.size
  rw [List.size_toArray, ← Array.length_toList]
  generalize x.cps.toList = l
  induction l with
  | nil => simp
  | cons a r ih => rw [List.flatMap_cons, List.length_append, List.length_cons, Nat.mul_add]; have := h a; omega
theorem one_len {c : Nat} {z : PySem.Str} (a : Nat) : (one c z a).length ≤ z.length + 1 := by
  unfold one; split
  · show _ ≤ z.cps.size + 1; simp
  · simp
theorem rep_len {x z : PySem.Str} {c k : Nat} (h : z.length ≤ 6) (hx : x.length ≤ k) : (Txt.replace x ⟨#[c]⟩ z).length ≤ 7 * k := by
  rw [replace_flat]
  refine Nat.le_trans (flat_len (k := 7) fun a => Nat.le_trans (one_len a) (by omega)) (Nat.mul_le_mul_left _ hx)
theorem join_nil_list (sep : PySem.Str) (hs : sep.cps.toList = []) : ∀ l : List PySem.Str, (Str.join sep l).cps.toList = l.flatMap fun x => x.cps.toList
  | [] => rfl
  | [x] => by show x.cps.toList = _; simp
  | x :: y :: r => by
    have ih := join_nil_list sep hs (y :: r)
    show (x ++ sep ++ Str.join sep (y :: r)).cps.toList = _
    simp only [Str.cps_append, Array.toList_append]
    rw [ih, hs, List.append_nil]; rfl
theorem join_flat (f : Nat → List Nat) (x : PySem.Str) : Txt.join (PySem.Str.ofString "") (x.cps.toList.map fun c => (⟨(f c).toArray⟩ : PySem.Str)) = flat f x := by
  refine str_eq ?_
  unfold Txt.join
  rw [StrLaws.glued_eq_join, join_nil_list _ (by decide +kernel), flat_list, List.flatMap_map]
theorem escC_len (h : Int) (c : Nat) : (escC h c).length ≤ 6 := by
  unfold escC
  (repeat' split) <;> simp
theorem join_small {f : Nat → List Nat} {x : PySem.Str} (hf : ∀ c, (f c).length ≤ 6) (hx : x.length ≤ 4) : ((x.cps.toList.map fun c => (⟨(f c).toArray⟩ : PySem.Str)).map (·.length)).sum + (x.cps.toList.map fun c => (⟨(f c).toArray⟩ : PySem.Str)).length ≤ 1048576 := by
  have h1 := StrLaws.sumLen_le (B := 6) (x.cps.toList.map fun c => (⟨(f c).toArray⟩ : PySem.Str)) (fun y hy => by
    obtain ⟨c, _, rfl⟩ := List.mem_map.mp hy
    show (f c).toArray.size ≤ 6
    simpa using hf c)
  have h2 : (x.cps.toList.map fun c => (⟨(f c).toArray⟩ : PySem.Str)).length = x.length := by rw [List.length_map, Array.length_toList]; rfl
  rw [h2] at h1 ⊢
  omega
/-- the law's own tables -/
noncomputable def tabs (h : Int) : List (PyData × PyData) :=
  if h = 0 then [(.str "&", .str "&amp;"), (.str "<", .str "&lt;"), (.str ">", .str "&gt;")]
  else if h = 1 then [(.str "&", .str "&amp;"), (.str "<", .str "&lt;"), (.str ">", .str "&gt;"), (.str "\"", .str "&quot;"), (.str "\t", .str "&#09;"), (.str "\n", .str "&#10;"), (.str "\r", .str "&#13;")]
  else if h = 2 then [(.str "&", .str "&amp;"), (.str ">", .str "&gt;"), (.str "\"", .str "&quot;")]
  else if h = 3 then [(.str "&", .str "&amp;"), (.str "<", .str "&lt;"), (.str ">", .str "&gt;"), (.str "\r", .str "&#xD;")]
  else [(.str "&", .str "&amp;"), (.str "<", .str "&lt;"), (.str "\"", .str "&quot;"), (.str "\t", .str "&#x9;"), (.str "\n", .str "&#xA;"), (.str "\r", .str "&#xD;")]
theorem same_sign (a c : Nat) : Spec.same (.str ⟨#[a]⟩) (.str ⟨#[c]⟩) = decide (a = c) := by
  show ((⟨#[a]⟩ : PySem.Str) == ⟨#[c]⟩) = _
  by_cases h : a = c
  · subst h; simp
  · rw [decide_eq_false h]
    refine beq_eq_false_iff_ne.mpr fun e => h ?_
    have : (#[a] : Array Nat) = #[c] := congrArg PySem.Str.cps e
    simpa using this
theorem look_nil (k : PyData) : Spec.lookup k [] = none := rfl
theorem look_cons (k a b : PyData) (r : List (PyData × PyData)) : Spec.lookup k ((a, b) :: r) = if Spec.same a k then some b else Spec.lookup k r := rfl
theorem tab_look (h : Int) (hh : 0 ≤ h ∧ h ≤ 4) (c : Nat) : (Spec.lookup (.str ⟨#[c]⟩) (tabs h)).getD (.str ⟨#[c]⟩) = .str ⟨(escC h c).toArray⟩ := by
  have : h = 0 ∨ h = 1 ∨ h = 2 ∨ h = 3 ∨ h = 4 := by omega
  rcases this with e | e | e | e | e <;> subst e <;>
    (simp only [tabs, lamp, llt, lgt, lquo, lcr, lnl, ltab, zamp, zlt, zgt, zquo, z13, z10, z09, zxD, zxA, zx9]
     unfold escC
     by_cases h1 : c = 38
     · subst h1; rfl
     by_cases h2 : c = 60
     · subst h2; rfl
     by_cases h3 : c = 62
     · subst h3; rfl
     by_cases h4 : c = 34
     · subst h4; rfl
     by_cases h5 : c = 13
     · subst h5; rfl
     by_cases h6 : c = 10
     · subst h6; rfl
     by_cases h7 : c = 9
     · subst h7; rfl
     simp [look_nil, look_cons, same_sign, h1, h2, h3, h4, h5, h6, h7, Ne.symm h1, Ne.symm h2, Ne.symm h3, Ne.symm h4, Ne.symm h5, Ne.symm h6, Ne.symm h7])
end Mine
end
section
open PySem PySem.W PyProof.Rows
set_option linter.all false
namespace Mine
theorem digits_len (n : Nat) (h : 1 ≤ n) : (Nat.toDigits 10 n).length = figN n := by
  have a := digits10_le (k := figN n) (n := n) (figN_pos n) (figN_lt n)
  have b := digits10_ge (k := figN n - 1) (n := n) (figN_le n h)
  have := figN_pos n
  omega
theorem text_len {M : Int} (h : 1 ≤ M) : ((PySem.Str.ofString (toString M)).length : Int) = figs M := by
  obtain ⟨n, rfl⟩ : ∃ n : Nat, M = (n : Int) := ⟨M.toNat, by omega⟩
  have e := PySem.W.KIN.signs_num n
  have e2 : (PySem.Str.ofString (toString (n : Int))).length = (Nat.toDigits 10 n).length := by
    show (PySem.Str.ofString (toString (n : Int))).cps.size = _
    rw [← Array.length_toList, e, List.length_map]
  rw [e2, digits_len n (by omega)]
  rfl
theorem figs_ge {M : Int} (h : 1000 ≤ M) : 4 ≤ figs M := by
  have h1 := figs_lt (v := M)
  have h2 := figs_pos M
  have h3 : (10 : Int) ^ 3 < 10 ^ (figs M).toNat := Int.lt_of_le_of_lt h h1
  rw [ten_cast, ten_cast] at h3
  have := pow10_lt (Int.ofNat_lt.mp h3)
  omega
end Mine
end
section
open PySem PySem.W PyProof.Rows
set_option Elab.async false
set_option linter.all false
namespace Mine
set_option maxRecDepth 100000
set_option maxHeartbeats 8000000
/-- what a call of the def at f does: rooms d, u; what comes back is R -/
abbrev Clm (d u : Nat) (prog : Program) (w : World) (K : Frag) (p : Program) (loose : List PySem.Str) (mean : ExcName → Option Value) (mg mb : PySem.Str → Option Value) (f : Addr) (news : List (Addr × Obj)) (pre : Prop) (vs : List Value) (R : Tok → Value) : Prop :=
  ∀ (dp un : Nat) (gd : Option (List Code)) (cn : PySem.Str) (cs : Scope) (a : Addr) (ccd : Value) (cl : List (PySem.Str × Addr)) (outer : List Env) (A₀ : Around) (base h₀ : Heap) (L : Addr) (m : PySem.Str → Option Value) (s : Shared) (Q E : Value → Shared → Prop),
    Below A₀ base outer h₀ → Fr h₀ L s.heap m → K.In h₀ → News h₀ L s.heap news → Top p loose mean mg mb h₀ → cs.kind = .function →
    pre → dp + d < recursionLimit → un + u < cLine → (∀ (t : Tok) (h' : Heap) (tk' : Nat), Fr h₀ L h' m → News h₀ L h' news → Q (R t) { s with heap := h', toks := tk' }) →
      wpAny (model prog w) (ktrTop dp un gd cn cs L a ccd cl outer) (call (.ref f) vs) Q E s
theorem clm_use {d u : Nat} {prog : Program} {w : World} {K : Frag} {p : Program} {loose : List PySem.Str} {mean : ExcName → Option Value} {mg mb : PySem.Str → Option Value} {f : Addr} {news : List (Addr × Obj)} {pre : Prop} {vs : List Value} {R : Tok → Value}
    {dp un : Nat} {gd : Option (List Code)} {cn : PySem.Str} {cs : Scope} {a : Addr} {ccd : Value} {cl : List (PySem.Str × Addr)} {outer : List Env} {A₀ : Around} {base h₀ : Heap} {L : Addr} {m : PySem.Str → Option Value} {s : Shared} {Q E : Value → Shared → Prop}
    (C : Clm d u prog w K p loose mean mg mb f news pre vs R)
    (B : Below A₀ base outer h₀) (F : Fr h₀ L s.heap m) (X : K.In h₀) (N : News h₀ L s.heap news) (T : Top p loose mean mg mb h₀) (hk : cs.kind = .function) (hp : pre) (hd : dp + d < recursionLimit) (hu : un + u < cLine)
    (ret : ∀ (t : Tok) (h' : Heap) (tk' : Nat), Fr h₀ L h' m → News h₀ L h' news → Q (R t) { s with heap := h', toks := tk' }) :
    wpAny (model prog w) (ktrTop dp un gd cn cs L a ccd cl outer) (call (.ref f) vs) Q E s :=
  C dp un gd cn cs a ccd cl outer A₀ base h₀ L m s Q E B F X N T hk hp hd hu ret
theorem clm_useF {facts : Prop} {d u : Nat} {prog : Program} {w : World} {K : Frag} {p : Program} {loose : List PySem.Str} {mean : ExcName → Option Value} {mg mb : PySem.Str → Option Value} {f : Addr} {news : List (Addr × Obj)} {pre : Prop} {vs : List Value} {R : Tok → Value}
    {dp un : Nat} {gd : Option (List Code)} {cn : PySem.Str} {cs : Scope} {a : Addr} {ccd : Value} {cl : List (PySem.Str × Addr)} {outer : List Env} {A₀ : Around} {base h₀ : Heap} {L : Addr} {m : PySem.Str → Option Value} {s : Shared} {Q E : Value → Shared → Prop}
    (C : Clm d u prog w K p loose mean mg mb f news pre vs R) (hf : pre → facts)
    (B : Below A₀ base outer h₀) (F : Fr h₀ L s.heap m) (X : K.In h₀) (N : News h₀ L s.heap news) (T : Top p loose mean mg mb h₀) (hk : cs.kind = .function) (hp : pre) (hd : dp + d < recursionLimit) (hu : un + u < cLine)
    (ret : ∀ (t : Tok) (h' : Heap) (tk' : Nat), facts → Fr h₀ L h' m → News h₀ L h' news → Q (R t) { s with heap := h', toks := tk' }) :
    wpAny (model prog w) (ktrTop dp un gd cn cs L a ccd cl outer) (call (.ref f) vs) Q E s :=
  C dp un gd cn cs a ccd cl outer A₀ base h₀ L m s Q E B F X N T hk hp hd hu fun t h' tk' F' N' => ret t h' tk' (hf hp) F' N'
/-- what a call of the def at f does, where it makes a list of its own: what stands in it is some vs with P -/
abbrev ClmL (d u : Nat) (prog : Program) (w : World) (K : Frag) (p : Program) (loose : List PySem.Str) (mean : ExcName → Option Value) (mg mb : PySem.Str → Option Value) (f : Addr) (news : List (Addr × Obj)) (pre : Heap → Prop) (vs : List Value) (P : List Value → Prop) : Prop :=
  ∀ (dp un : Nat) (gd : Option (List Code)) (cn : PySem.Str) (cs : Scope) (a : Addr) (ccd : Value) (cl : List (PySem.Str × Addr)) (outer : List Env) (A₀ : Around) (base h₀ : Heap) (L : Addr) (m : PySem.Str → Option Value) (s : Shared) (Q E : Value → Shared → Prop),
    Below A₀ base outer h₀ → Fr h₀ L s.heap m → K.In h₀ → News h₀ L s.heap news → Top p loose mean mg mb h₀ → cs.kind = .function →
    pre h₀ → dp + d < recursionLimit → un + u < cLine → (∀ (l : Addr) (xs : List Value) (n : Nat) (h' : Heap) (tk' : Nat), P xs → Fr h₀ L h' m → News h₀ L h' ((l, listOf xs.toArray n) :: news) → (∀ p ∈ news, p.1 < l) → Q (.ref l) { s with heap := h', toks := tk' }) →
      wpAny (model prog w) (ktrTop dp un gd cn cs L a ccd cl outer) (call (.ref f) vs) Q E s
theorem clml_use {d u : Nat} {prog : Program} {w : World} {K : Frag} {p : Program} {loose : List PySem.Str} {mean : ExcName → Option Value} {mg mb : PySem.Str → Option Value} {f : Addr} {news : List (Addr × Obj)} {pre : Heap → Prop} {vs : List Value} {P : List Value → Prop}
    {dp un : Nat} {gd : Option (List Code)} {cn : PySem.Str} {cs : Scope} {a : Addr} {ccd : Value} {cl : List (PySem.Str × Addr)} {outer : List Env} {A₀ : Around} {base h₀ : Heap} {L : Addr} {m : PySem.Str → Option Value} {s : Shared} {Q E : Value → Shared → Prop}
    (C : ClmL d u prog w K p loose mean mg mb f news pre vs P)
    (B : Below A₀ base outer h₀) (F : Fr h₀ L s.heap m) (X : K.In h₀) (N : News h₀ L s.heap news) (T : Top p loose mean mg mb h₀) (hk : cs.kind = .function) (hp : pre h₀) (hd : dp + d < recursionLimit) (hu : un + u < cLine)
    (ret : ∀ (l : Addr) (xs : List Value) (n : Nat) (h' : Heap) (tk' : Nat), P xs → Fr h₀ L h' m → News h₀ L h' ((l, listOf xs.toArray n) :: news) → (∀ p ∈ news, p.1 < l) → Q (.ref l) { s with heap := h', toks := tk' }) :
    wpAny (model prog w) (ktrTop dp un gd cn cs L a ccd cl outer) (call (.ref f) vs) Q E s :=
  C dp un gd cn cs a ccd cl outer A₀ base h₀ L m s Q E B F X N T hk hp hd hu ret
section
variable {prog : Program} {w : World} {A A₀ : Around} {s : Shared} {K : Frag} {L : Addr} {h₀ base : Heap} {m mg mb : PySem.Str → Option Value} {news : List (Addr × Obj)} {p : Program} {loose : List PySem.Str} {mean : ExcName → Option Value}
theorem news_keeps {g h : Heap} {L' : Addr} {m' : PySem.Str → Option Value} (N : News h₀ L g news) (F : Fr g L' h m') : News h₀ L h news :=
  fun q hq => ⟨F.keep _ _ (N q hq).1, (N q hq).2⟩
/-- a def entered that stores into nothing of its caller's: the caller's ledger stands in the ground -/
theorem code_defR {env : Env} {outer : List Env} {R : Result → Shared → Prop} {name qual : PySem.Str} {params : Arguments} {body : List Stmt} {scope : Scope} {dV kV doc pm cdv ct oc : Value} {an od : Option Addr} {osl : Array (Option Value)} {f : Addr} {args : Args} {binds : List (PySem.Str × Value)}
    (B : Below A₀ base outer h₀) (F : Fr h₀ L s.heap m) (X₀ : K.In h₀) (N : News h₀ L s.heap news) (T : Top p loose mean mg mb h₀) (hA : A.frames = some (env :: outer)) (hf : env.frame = some L) (hke : env.scope.kind = .function)
    (ho : K.lookup f = some ⟨oc, od, .func (fnOf name qual params body scope dV kV doc pm an cdv ct), osl⟩) (hcd : codeIn K cdv qual = true) (hroom : A.depth < recursionLimit)
    (hbind : BindsTo s (fnOf name qual params body scope dV kV doc pm an cdv ct) args binds) (hloc : ∀ y ∈ binds, scope.names.lookup y.1 = some .local)
    (h : ∀ g L' h₁, (∀ p ∈ news, p.1 < L') → News h₀ L g news → Fr h₀ L g m → Fr g L' h₁ (fun y => binds.reverse.lookup y) → News g L' h₁ [] → Below A base (env :: outer) g → K.In g → Top p loose mean mg mb g →
      wpAny (model prog w) (A.deeper (envOf qual scope L' f cdv)) (execs body (envOf qual scope L' f cdv))
        (fun fl s' => LeaveK h₀ L m g R (match fl with | .ret v => v | _ => .none) s')
        (fun e s' => wpAny (model prog w) (A.deeper (envOf qual scope L' f cdv)) (leaving (envOf qual scope L' f cdv) e) (fun _ s'' => R (.error e) s'') (fun e' s'' => R (.error e') s'') s')
        { s with heap := h₁, toks := s.toks + binds.length })
    (hco : scope.isCoroutine = false) (hgen : scope.isGenerator = false) (hk : scope.kind = .function)
    (hcell : ∀ x ∈ scope.names, x.2 ≠ .cell) : codeAny (model prog w) A (.call (.ref f) args) R s := by
  have X := X₀.keeps F.keep
  obtain ⟨FG, BG, st, lv⟩ := groundX (R := R) B F News.nil hA hf hke
  refine codeAny_call_def (fd := fnOf name qual params body scope dV kV doc pm an cdv ct) (body := body) (binds := binds) hroom (X _ _ ho) rfl (T.nolimit.keeps F.keep) (codeRec_of X hcd) rfl hbind hcell hloc (fun h₁ hns hk₁ => ?_) hco hgen hk
  exact wpAny_mono (h s.heap s.heap.objs.size h₁ (fun p hp => Heap.lt_size (N p hp).1) N FG ⟨hns, hk₁, Nat.le_refl _⟩ News.nil BG (X₀.keeps st) (T.keeps st)) (fun fl s' hl => lv _ _ hl) fun _ _ y => y
theorem code_defCR {env : Env} {outer : List Env} {R : Result → Shared → Prop} {name qual : PySem.Str} {params : Arguments} {body : List Stmt} {scope : Scope} {dV kV doc pm cdv ct oc : Value} {an od : Option Addr} {osl : Array (Option Value)} {f : Addr} {args : Args} {binds : List (PySem.Str × Value)}
    (B : Below A₀ base outer h₀) (F : Fr h₀ L s.heap m) (X₀ : K.In h₀) (N : News h₀ L s.heap news) (T : Top p loose mean mg mb h₀) (hA : A.frames = some (env :: outer)) (hf : env.frame = some L) (hke : env.scope.kind = .function)
    (ho : K.lookup f = some ⟨oc, od, .func (fnOf name qual params body scope dV kV doc pm an cdv ct), osl⟩) (hcd : codeIn K cdv qual = true) (hroom : A.depth < recursionLimit)
    (hbind : BindsTo s (fnOf name qual params body scope dV kV doc pm an cdv ct) args binds) (hkind : (binds.all fun y => scope.names.lookup y.1 == some .local || scope.names.lookup y.1 == some .cell) = true)
    (hnd : ((cellsFrom 0 scope.names []).map (·.1)).Nodup)
    (h : ∀ g L' h₁ tk cells, News h₀ L g news → Fr h₀ L g m → Fr g L' h₁ (bindL (envOfC qual scope L' f cdv).kindOf binds fun _ => none) → News g L' h₁ cells →
      CellsAre (bindC (envOfC qual scope L' f cdv).kindOf binds fun _ => none) (cellsFrom (L' + 1) scope.names []) cells → Below A base (env :: outer) g → K.In g → Top p loose mean mg mb g →
      wpAny (model prog w) (A.deeper (envOfC qual scope L' f cdv)) (execs body (envOfC qual scope L' f cdv))
        (fun fl s' => LeaveK h₀ L m g R (match fl with | .ret v => v | _ => .none) s')
        (fun e s' => wpAny (model prog w) (A.deeper (envOfC qual scope L' f cdv)) (leaving (envOfC qual scope L' f cdv) e) (fun _ s'' => R (.error e) s'') (fun e' s'' => R (.error e') s'') s')
        { s with heap := h₁, toks := tk })
    (hco : scope.isCoroutine = false) (hgen : scope.isGenerator = false) (hk : scope.kind = .function) : codeAny (model prog w) A (.call (.ref f) args) R s := by
  have X := X₀.keeps F.keep
  obtain ⟨FG, BG, st, lv⟩ := groundX (R := R) B F News.nil hA hf hke
  refine codeAny_call_function (fd := fnOf name qual params body scope dV kV doc pm an cdv ct) hroom (X _ _ ho) rfl hco hgen rfl (codeRec_of X hcd) (hbind _ _ _ _ ?_)
  refine wpAny_newFunctionEnv_cells hk (kindsX hkind _) fun env' he s' x => ?_
  subst he
  refine ⟨(T.nolimit.keeps F.keep).keeps x.toInCall.keep, codeAny_func ?_⟩
  obtain ⟨h₁, tk, rfl, _⟩ := x.done
  have hk₁ := x.toInCall.keep
  obtain ⟨cells, NC, Y⟩ := Cl.news (h₀ := s.heap) (Nat.le_refl _) fun n c hm => ⟨x.cell n c (lookup_of_mem_nodup (cellsFrom_names scope.names 0 (s.heap.objs.size + 1) [] [] rfl ▸ hnd) hm), x.above n c hm⟩
  exact wpAny_mono (h s.heap s.heap.objs.size h₁ tk cells N FG ⟨x.toInCall.ns, hk₁, Nat.le_refl _⟩ NC Y BG (X₀.keeps st) (T.keeps st)) (fun fl s' hl => lv _ _ hl) fun _ _ y => y
theorem newList_mine {M : Model} {E : Value → Shared → Prop} {vs : List Value} {Q : Value → Shared → Prop} (F : Fr h₀ L s.heap m) (N : News h₀ L s.heap news)
    (h : ∀ l h', L < l → Fr h₀ L h' m → News h₀ L h' ((l, listOf vs.toArray 0) :: news) → (∀ p ∈ news, p.1 < l) → Q (.ref l) { s with heap := h' }) (hsz : vs.length ≤ sizeLine) : wpAny M A (newList vs) Q E s :=
  newList_N F N (fun h' F' N' => h _ h' F.ns.lt F' N' fun p hp => Heap.lt_size (N p hp).1) hsz
end
end Mine
end
section
open PySem PySem.W PyProof.Rows
set_option Elab.async false
set_option linter.all false
namespace Mine
set_option maxRecDepth 100000
set_option maxHeartbeats 8000000
section
variable {prog : Program} {w : World} {A : Around} {E : Value → Shared → Prop} {s : Shared} {h₀ : Heap} {L : Addr} {m : PySem.Str → Option Value} {env : Env}
/-- a comprehension's source that is a text -/
noncomputable def SrcS (prog : Program) (w : World) (A : Around) (h₀ : Heap) (L : Addr) (m : PySem.Str → Option Value) (env : Env) (elt : Expr) (x : PySem.Str) (scope : Scope) (cl : List (PySem.Str × Addr)) (Fin : Shared → List Value → List (Addr × Obj) → Prop) (xv : Value) (s₁ : Shared) : Prop :=
  ∃ xs t news, xv = .str xs t ∧ A.handled = none ∧ Fr h₀ L s₁.heap m ∧ News h₀ L s₁.heap news ∧ xs.cps.size ≤ sizeLine ∧
    ∀ s₂ : Shared, (∃ h, s₂ = { s₁ with heap := h }) → LCg.CompRest prog w A h₀ L m env elt x scope cl s₂ (fun _ => True) (SignAt xs) (Fin s₂) xs.cps.size 0 [] news
theorem SrcS.of {elt : Expr} {x : PySem.Str} {scope : Scope} {cl : List (PySem.Str × Addr)} {Fin : Shared → List Value → List (Addr × Obj) → Prop} {xs : PySem.Str} {t : Tok} {news : List (Addr × Obj)} {s₁ : Shared}
    (hh : A.handled = none) (F : Fr h₀ L s₁.heap m) (N : News h₀ L s₁.heap news) (hsz : xs.cps.size ≤ sizeLine)
    (h : ∀ g, LCg.CompRest prog w A h₀ L m env elt x scope cl { s₁ with heap := g } (fun _ => True) (SignAt xs) (Fin { s₁ with heap := g }) xs.cps.size 0 [] news) :
    SrcS prog w A h₀ L m env elt x scope cl Fin (.str xs t) s₁ := ⟨xs, t, news, rfl, hh, F, N, hsz, fun _ ⟨g, e⟩ => e ▸ h g⟩
theorem striter_st {I : Addr} {k : String} {xs : PySem.Str} {t : Tok} : ∀ i (h h' : Heap) (o : Obj) (nw : List (Addr × Obj)), h.IsStrIter I k xs t i → h.get? I = some o → h'.get? I = some o → (∀ b o, h₀.get? b = some o → h'.get? b = some o) → News h₀ L h' nw → True → h'.IsStrIter I k xs t i :=
  fun i h h' o nw st e e' _ _ _ => by
    obtain ⟨o', q, r⟩ := st
    rw [e] at q; cases q; exact ⟨o, e', r⟩
theorem ListComp_S {elt iter : Expr} {x : PySem.Str} {px : Pos} {scope : Scope} {cl : List (PySem.Str × Addr)} {pos : Pos} {Q : Value → Shared → Prop} (F₀ : Fr h₀ L s.heap m)
    (hclos : closureFor scope env = pure cl) (hcell : ∀ y ∈ scope.names, y.2 ≠ .cell) (hkind : scope.kind = .function)
    (hnames : ∀ y ∈ scope.names, y.2 = .local → scope.names.lookup y.1 = some .local) (hx : scope.names.lookup x = some .local)
    (h : wpAny (model prog w) A (eval iter env) (SrcS prog w A h₀ L m env elt x scope cl (fun s₂ => LCg.FinE h₀ L m s₂ Q)) E s)
    (hs : ∀ x, foldedSetIterable iter env x = pure x := by intro _; rfl) :
    wpAny (model prog w) A (eval (.ListComp elt [⟨.Name x px, iter, [], 0⟩] scope pos) env) Q E s := by
  rw [eval_ListComp]
  refine wpAny_comprehension_free (use := none) rfl hs hclos hkind hnames (wpAny_mono h (fun xv s₁ h₁ => ?_) fun _ _ e => e)
  obtain ⟨xs, t, news, rfl, hh, F, N, hsz, R⟩ := h₁
  have up : ∀ (o : Obj) b o', s₁.heap.get? b = some o' → (s₁.heap.push o).get? b = some o' := fun o b o' e => Heap.get?_push_of_some _ e
  cases ha : xs.cps.all (· < 128)
  · refine wpAny_pyIter_wide ha ?_
    refine LCg.block_U (Walks.strWide hh s₁.heap.objs.size xs t) hsz (fun i h st => by obtain ⟨o, e, _⟩ := st; exact ⟨o, e⟩) striter_st hcell hkind hx ⟨_, Heap.get?_push_size _ rfl, rfl, rfl⟩ (fun b hb => ?_)
      (F.keeps (up _)) (N.grown (up _)) (Nat.ne_of_lt F.ns.lt) (next_is_new F) (fun p hp => Nat.ne_of_lt (Heap.lt_size (N p hp).1)) trivial (R _ ⟨_, rfl⟩) ?_
    · show b < (s₁.heap.push _).objs.size
      rw [Heap.size_push, List.mem_singleton.mp hb]; exact Nat.lt_succ_self _
    · intro D C h tk m' ys news' F' N' o1 hn hC₀ hD₀ hCL hDL hCD offC fin
      refine ⟨m', hn, fun h'' hs'' => fin D h'' tk (F'.change hs'' hCL hC₀) (fun p hp => ?_) o1⟩
      refine ⟨hs''.extBut _ _ ?_ (N' p hp).1, (N' p hp).2⟩
      rcases List.mem_cons.mp hp with rfl | hp
      · exact Ne.symm hCD
      · exact offC p hp
  · refine wpAny_pyIter_ascii ha ?_
    refine LCg.block_U (Walks.strAscii hh s₁.heap.objs.size xs t) hsz (fun i h st => by obtain ⟨o, e, _⟩ := st; exact ⟨o, e⟩) striter_st hcell hkind hx ⟨_, Heap.get?_push_size _ rfl, rfl, rfl⟩ (fun b hb => ?_)
      (F.keeps (up _)) (N.grown (up _)) (Nat.ne_of_lt F.ns.lt) (next_is_new F) (fun p hp => Nat.ne_of_lt (Heap.lt_size (N p hp).1)) trivial (R _ ⟨_, rfl⟩) ?_
    · show b < (s₁.heap.push _).objs.size
      rw [Heap.size_push, List.mem_singleton.mp hb]; exact Nat.lt_succ_self _
    · intro D C h tk m' ys news' F' N' o1 hn hC₀ hD₀ hCL hDL hCD offC fin
      refine ⟨m', hn, fun h'' hs'' => fin D h'' tk (F'.change hs'' hCL hC₀) (fun p hp => ?_) o1⟩
      refine ⟨hs''.extBut _ _ ?_ (N' p hp).1, (N' p hp).2⟩
      rcases List.mem_cons.mp hp with rfl | hp
      · exact Ne.symm hCD
      · exact offC p hp
/-- item by item -/
inductive All2 {α : Type} (R : α → Value → Prop) : List α → List Value → Prop
  | nil : All2 R [] []
  | cons {k : α} {y : Value} {ks : List α} {ys : List Value} : R k y → All2 R ks ys → All2 R (k :: ks) (y :: ys)
theorem All2.snoc {α : Type} {R : α → Value → Prop} {k : α} {y : Value} (h : R k y) : ∀ {ks : List α} {ys : List Value}, All2 R ks ys → All2 R (ks ++ [k]) (ys ++ [y])
  | _, _, .nil => .cons h .nil
  | _, _, .cons a r => .cons a (r.snoc h)
theorem All2.ints {α : Type} {R : α → Value → Prop} {g : α → Int} (e : ∀ k y, R k y → ∃ t, y = .int (g k) t) : ∀ {ks : List α} {ys : List Value}, All2 R ks ys → IntsAre ys (ks.map g)
  | _, _, .nil => .nil
  | _, _, .cons a r => by
    obtain ⟨t, rfl⟩ := e _ _ a
    exact .cons _ t (r.ints e)
theorem All2.strs {α : Type} {R : α → Value → Prop} {g : α → PySem.Str} (e : ∀ k y, R k y → ∃ t, y = .str (g k) t) : ∀ {ks : List α} {ys : List Value}, All2 R ks ys → StrsAre ys (ks.map g)
  | _, _, .nil => .nil
  | _, _, .cons a r => by
    obtain ⟨t, rfl⟩ := e _ _ a
    exact .cons _ t (r.strs e)
/-- what an element leaves behind: the ledger as it was, a value with R -/
noncomputable def ElOk (news : List (Addr × Obj)) (R : Value → Prop) (y : Value) (news' : List (Addr × Obj)) : Prop := news' = news ∧ R y
theorem rest_map {elt : Expr} {x : PySem.Str} {scope : Scope} {cl : List (PySem.Str × Addr)} {S : List (Addr × Obj) → Prop} {P : Nat → Value → Prop} {Fin : List Value → List (Addr × Obj) → Prop} {news : List (Addr × Obj)} {α : Type} {n : Nat} {ks : List α} (enc : α → Value → Prop) (R : α → Value → Prop) (hks : ks.length = n) (hP : ∀ i v, i < n → P i v → ∃ k, ks[i]? = some k ∧ enc k v)
    (turn : ∀ k v I oI C oC D m₂ ys h tk (E' : Value → Shared → Prop), k ∈ ks → enc k v → LCg.NsObj oC m₂ → m₂ x = some v → Fr h₀ L h m → News h₀ L h ((I, oI) :: (C, oC) :: (D, LCg.lst ys) :: news) → LCg.Off3 I C D news → ((@Ne Nat I C) ∧ (@Ne Nat I D) ∧ (@Ne Nat C D)) →
      wpAny (model prog w) A (eval elt (compEnvC scope cl C env)) (LCg.CompEnd h₀ L m { s with heap := h, toks := tk } I oI C oC D (LCg.lst ys) S (ElOk news (R k))) E' { s with heap := h, toks := tk })
    (fin : ∀ ys, All2 R ks ys → ys.length = n → Fin ys news) : LCg.CompRest prog w A h₀ L m env elt x scope cl s S P Fin n 0 [] news := by
  have key : ∀ (j i : Nat) (ys : List Value), i + j = n → All2 R (ks.take i) ys → ys.length = i → LCg.CompRest prog w A h₀ L m env elt x scope cl s S P Fin j i ys news := by
    intro j
    induction j with
    | zero =>
      intro i ys hi hy hl
      have e : i = ks.length := by omega
      subst e
      rw [List.take_length] at hy
      exact LCg.CompRest.zero (fin ys hy (by omega))
    | succ j ih =>
      intro i ys hi hy hl
      refine LCg.CompRest.succ ?_
      intro v I oI C oC D m₂ h tk E' hv hC hx F N off ne
      obtain ⟨k, hk, hen⟩ := hP i v (by omega) hv
      refine wpAny_mono (turn k v I oI C oC D m₂ ys h tk E' (List.mem_of_getElem? hk) hen hC hx F N off ne) (fun y s₂ hq => ?_) fun _ _ e => e
      obtain ⟨h', tk', nw, e, F', N', off', hS, hn, hR⟩ := hq
      rw [hn] at N' off' hS
      refine ⟨h', tk', news, e, F', N', off', hS, ?_⟩
      refine ih (i + 1) _ (by omega) ?_ (by simp [hl])
      rw [List.take_add_one, hk]
      exact hy.snoc hR
  exact key n 0 [] (by omega) (by simp only [List.take_zero]; exact .nil) rfl
end
section
variable {prog : Program} {w : World} {A : Around} {E : Value → Shared → Prop} {s : Shared} {h₀ : Heap} {env : Env} {x : PySem.Str} {body : List Stmt} {Q : Flow → Shared → Prop}
/-- a loop over a range, by what holds at each turn's number -/
theorem iter_rangeN {r : Addr} {a₀ b₀ : Int} {t₀ u₀ v₀ : Tok} (n : Nat) {m₀ : PySem.Str → Option Value} {news : List (Addr × Obj)} (J : Nat → (PySem.Str → Option Value) → List (Addr × Obj) → Prop)
    (hh : A.handled = none) (hr : IsRange s.heap r a₀ b₀ 1 t₀ u₀ v₀) (hsmall : Builtin.Range.small a₀ b₀ 1 = true) (hn : Builtin.Range.rangeSize a₀ b₀ 1 = (n : Int)) (F : Fr h₀ env.locals s.heap m₀) (N : News h₀ env.locals s.heap news) (hj : J 0 m₀ news)
    (turn : ∀ (i : Nat) t m₁ news₁ h tk own, i < n → OwnOff own (news.map (·.1)) → J i m₁ news₁ → Fr h₀ env.locals h (fun y => if y = x then some (.int (a₀ + (i : Int)) t) else m₁ y) → News h₀ env.locals h (news₁ ++ own) →
      wpAny (model prog w) A (execs body env) (InvPostN h₀ env.locals (J (i + 1)) own (news.map (·.1)) { s with heap := h, toks := tk } Q) E { s with heap := h, toks := tk })
    (done : ∀ m₁ nx h tk, J n m₁ nx → Fr h₀ env.locals h m₁ → News h₀ env.locals h nx → Q .next { s with heap := h, toks := tk }) :
    wpAny (model prog w) A (pyIter (.ref r)) (fun it s₂ => LoopAtV prog w A h₀ env x body Q E it s₂) E s := by
  refine wpAny_pyIter_range hr hsmall ?_
  have W : Walks prog w A s.heap.objs.size [s.heap.objs.size] [s.heap.objs.size] n (fun i v => i < n ∧ ∃ t, v = .int (a₀ + i * 1) t)
      (fun i h => IsRangeIter h s.heap.objs.size (a₀ + (i : Nat) * 1) ((n : Int) - (i : Nat)) 1) := (Walks.range hh _ a₀ 1 n).bound
  refine loop_invN J W ?_ ?_ ?_ ?_ (by show IsRangeIter _ _ _ _ _; rw [hn]; simpa using Heap.get?_push_size _ rfl) (F.push _) (fun p hp => ⟨Heap.get?_push_of_some _ (N p hp).1, (N p hp).2⟩) hj ?_ done
  · intro hm
    exact absurd F.ns.lt ((List.mem_singleton.mp hm) ▸ Nat.lt_irrefl _)
  · intro b hb
    rw [List.mem_singleton.mp hb]
    exact next_is_new F
  · intro p hp hI
    exact absurd (Heap.lt_size (N p hp).1) ((List.mem_singleton.mp hI) ▸ Nat.lt_irrefl _)
  · intro p hp hI
    exact absurd (Heap.lt_size (N p hp).1) ((List.mem_singleton.mp hI) ▸ Nat.lt_irrefl _)
  · rintro i v m₁ news₁ h tk own hi ⟨_, t, rfl⟩ _ ho hJ F₁ N₁
    rw [Int.mul_one] at F₁
    exact turn i t m₁ news₁ h tk own hi ho hJ F₁ N₁
end
section
variable {prog : Program} {w : World} {A : Around} {E : Value → Shared → Prop} {s : Shared} {h₀ : Heap} {L : Addr} {m : PySem.Str → Option Value} {news : List (Addr × Obj)}
/-- enumerate over a list of the ledger; the list leaves the ledger -/
theorem call_enum_mine {l : Addr} {vs : List Value} {n : Nat} {ns : List Int} {Q : Value → Shared → Prop} (hh : A.handled = none) (F : Fr h₀ L s.heap m) (N : News h₀ L s.heap ((l, listOf vs.toArray n) :: news)) (hap : ∀ p ∈ news, p.1 ≠ l) (hi : IntsAre vs ns)
    (h : ∀ h' e, Fr h₀ L h' m → News h₀ L h' news → PairSrcL prog w A E h₀ L ItemKind.int ns (.ref e) { s with heap := h' } m news → Q (.ref e) { s with heap := h' }) :
    wpAny (model prog w) A (call (.type "enumerate") [.ref l]) Q E s := by
  have hl := N _ (.head _)
  have hls : s.heap.IsList l vs.toArray := ⟨_, hl.1, rfl, n, rfl⟩
  have hl2 : l < s.heap.objs.size := Heap.lt_size hl.1
  have hLs : L < s.heap.objs.size := F.ns.lt
  have hab : h₀.objs.size ≤ L := F.above
  refine call_enumerate_list hls fun h' he hit hsz hk => ?_
  have F' : Fr h₀ L h' m := ⟨F.ns.keeps hk, fun b o e => hk b o (F.keep b o e), F.above⟩
  have N' : News h₀ L h' news := fun p hp => ⟨hk _ _ (N p (.tail _ hp)).1, (N p (.tail _ hp)).2⟩
  refine h h' _ F' N' fun env hL => ?_
  subst hL
  have none_ge : ∀ a, h₀.objs.size ≤ a → h₀.get? a = none := fun a ha => by
    cases e : h₀.get? a with
    | none => rfl
    | some o => exact absurd (Heap.lt_size e) (Nat.not_lt.mpr ha)
  have nn : ∀ a b : Nat, a ≠ b → ¬ a = b := fun _ _ h => h
  refine enumSrc (Draws.list (A := A.in1) hh s.heap.objs.size l (Nat.ne_of_lt hl2) vs.toArray) he ⟨hit, hls.at fun o e => hk l o e⟩ (Nat.succ_ne_self _) ?_ (by simp) ?_
    (none_ge _ (Nat.le_trans hab (Nat.le_of_lt (Nat.lt_succ_of_lt hLs)))) (none_ge _ (Nat.le_trans hab (Nat.le_of_lt hLs))) ?_ (by simp [hi.length]) (fun i x hx => (IntsAre.areOf hi).get i x (by simpa using hx)) F' N'
  · intro hm
    simp only [List.mem_cons, List.not_mem_nil, or_false] at hm
    rcases hm with e | e
    · exact Nat.succ_ne_self _ e
    · exact Nat.ne_of_gt (Nat.lt_succ_of_lt hl2) e
  · intro hm
    simp only [List.mem_cons, List.not_mem_nil, or_false] at hm
    rcases hm with e | e | e
    · exact Nat.ne_of_lt (Nat.lt_succ_of_lt hLs) e
    · exact Nat.ne_of_lt hLs e
    · exact hl.2.1 e.symm
  · intro b hb q hq e
    have hq1 : q.1 < s.heap.objs.size := Heap.lt_size (N q (.tail _ hq)).1
    simp only [List.mem_cons, List.not_mem_nil, or_false] at hb
    rcases hb with e1 | e1 | e1
    · exact Nat.ne_of_gt (Nat.lt_succ_of_lt hq1) (e1.symm.trans e)
    · exact Nat.ne_of_gt hq1 (e1.symm.trans e)
    · exact hap q hq (e.symm.trans e1)
end
end Mine
end
section
open PySem PySem.W PyProof.Rows
set_option Elab.async false
namespace Mine
set_option maxRecDepth 100000
set_option maxHeartbeats 8000000
open_top hd for PySem.Challenge.rw_yf0014_01
end Mine
end
section
open PySem PySem.W PyProof.Rows
set_option Elab.async false
set_option linter.all false
namespace Mine
set_option maxRecDepth 100000
set_option maxHeartbeats 8000000
section
variable {prog : Program} {w : World} {A : Around} {E : Value → Shared → Prop} {s : Shared} {name : PySem.Str} {scope : Scope} {L a : Addr} {cd : Value} {h₀ : Heap} {m : PySem.Str → Option Value} {news : List (Addr × Obj)}
theorem upd_same {m : PySem.Str → Option Value} {x : PySem.Str} {v : Value} (h : m x = some v) : (fun y => if y = x then some v else m y) = m := by
  funext y
  by_cases hy : y = x
  · rw [if_pos hy, hy, h]
  · rw [if_neg hy]
theorem esc_if {x y z : PySem.Str} {t : Tok} {k0 k1 k2 : Nat} {p1 p2 p3 p4 p5 p6 p7 p8 p9 p10 p11 : Pos} {Q : Flow → Shared → Prop}
    (F : Fr h₀ L s.heap m) (N : News h₀ L s.heap news) (hm : m "text" = some (.str x t)) 
    (h : ∀ t' h' k, (Txt.replace x y z).length ≤ 7 * x.length → Fr h₀ L h' (fun q => if q = "text" then some (.str (Txt.replace x y z) t') else m q) → News h₀ L h' news → Q .next { s with heap := h', toks := k })
    (hl : (envOf name scope L a cd).kindOf "text" = some .local) (hk : scope.kind = .function)
    (hy : ∃ c, y = ⟨#[c]⟩) (hyz : (y == z) = false) (hx : x.length ≤ 1048576) (hz : z.length ≤ 6) (hp : (p6.endLine == p9.line) = true) :
    wpAny (model prog w) A (exec (.If (.Compare (.Constant (.str y) k0 p1) [.In] [.Name "text" p2] p3) [.Assign [.Name "text" p4] (.Call (.Attribute (.Name "text" p5) "replace" p6) [.Constant (.str y) k1 p7, .Constant (.str z) k2 p8] [] p9) p10] [] p11) (envOf name scope L a cd)) Q E s := by
  have hlen : (Txt.replace x y z).length ≤ 7 * x.length := by
    obtain ⟨c, rfl⟩ := hy
    exact rep_len hz (Nat.le_refl _)
  refine wpAny_If (wpAny_isTrue_Compare1 (Calls.Constant_str (ld F hm (in_str (wpAny_truthy_bool ?_)) hk hl)))
  split
  · refine wpAny_execs_cons (wpAny_Assign_Name (MethodCall_ (pl := do return (← importBound (.Name "text" p5) (envOf name scope L a cd)).getD true) (ld F hm (GM.replace (callWith_method1 ?_)) hk hl) ?he))
    case he =>
      show (do
        let ov ← eval (.Name "text" p5) (envOf name scope L a cd)
        standAt p6.atName
        methodCall (.Name "text" p5) "replace" p6 p9 (envOf name scope L a cd) ov 2 _ _) = _
      have e : methodCallPos true (.Name "text" p5) (envOf name scope L a cd) p6 p9 = pure p9 := by
        unfold methodCallPos; rw [hp]; rfl
      unfold methodCall
      have e2 : methodCallForm 2 (backTo p9 (starEach [.Constant (.str y) k1 p7, .Constant (.str z) k2 p8] (envOf name scope L a cd))) (backToKw p9 (keywordEach [] (envOf name scope L a cd))) = true := rfl
      rw [e2, e]
      rfl
    refine Calls.spliced_cons (x := eval (.Constant (.str y) k1 p7) (envOf name scope L a cd)) (Calls.Constant_str (pos := p7) (k := k1) ?_)
    refine Calls.spliced_cons (x := eval (.Constant (.str z) k2 p8) (envOf name scope L a cd)) (Calls.Constant_str (pos := p8) (k := k2) (Calls.spliced_nil ?_))
    refine SC.replaceW (Nat.succ_ne_zero _) (Nat.succ_ne_zero _) (Nat.ne_of_lt (Nat.lt_succ_self _)) hyz hx (Nat.le_trans hz (by decide)) ?_
    intro t' k
    refine stN F N (fun h' F' N' => ?_) hk hl
    exact wpAny_execs_nil (h t' h' _ hlen F' N')
  · refine wpAny_execs_nil ?_
    rename_i hn
    have e : Txt.replace x y z = x := by
      obtain ⟨c, rfl⟩ := hy
      rw [StrLaws.found_one, decide_eq_true_eq] at hn
      exact replace_none hn
    have := h t s.heap (s.toks + 1) hlen
    rw [e, upd_same hm] at this
    exact this F N
end
end Mine
end
section
open PySem PySem.W PyProof.Rows
set_option Elab.async false
set_option linter.all false
namespace Mine
set_option maxRecDepth 100000
set_option maxHeartbeats 8000000
theorem esc0_C (w : World) (p : Program) (loose : List PySem.Str) (mean : ExcName → Option Value) (mg mb : PySem.Str → Option Value) (v1 : PySem.Str) (tv1 : CbTok) (news : List (Addr × Obj)) :
  Clm 1 20 PySem.Challenge.rw_yf0014_01.prog w (hd.heap_39 w.params) p loose mean mg mb 49 news (v1.length ≤ 4) [.str v1 tv1] (fun t => .str (esc 0 v1) t) := by
  k_with_none
  k_with "exec If" => (k_here; (with_reducible show wpAny _ _ (exec (Stmt.If (Expr.Compare _ [CmpOp.In] _ _) _ _ _) _) _ _ _); (rename Fr _ _ _ _ => F'Z); (rename News _ _ _ _ => N'Z); k_dflt ((with_unfolding_all refine' Mine.esc_if F'Z N'Z ?hm ?_ ?hl ?hk ?hy ?hyz ?hx ?hz ?hp); (case hm => with_unfolding_all rfl); (case hl => rfl); (case hk => rfl); (case hy => exact ⟨_, by first | exact Mine.lamp | exact Mine.llt | exact Mine.lgt | exact Mine.lquo | exact Mine.lcr | exact Mine.lnl | exact Mine.ltab⟩); (case hyz => decide +kernel); (case hx => omega); (case hz => decide +kernel); (case hp => rfl); intro _ _ _ _ F'Z N'Z; (try k_sweep)))
  k_fill
  intro dp un gd cn cs a ccd cl outer A₀ base h₀ L m s Q E B F X N T hk
  intro hp hd hu hret
  refine wpAny_call ?_
  k_dflt cell_enter
  k_steps
  all_goals (refine cb_retS hret ?_ (by k_asm) (by k_asm); exact r0_esc v1)
theorem esc1_C (w : World) (p : Program) (loose : List PySem.Str) (mean : ExcName → Option Value) (mg mb : PySem.Str → Option Value) (v1 : PySem.Str) (tv1 : CbTok) (news : List (Addr × Obj)) :
  Clm 1 20 PySem.Challenge.rw_yf0014_01.prog w (hd.heap_39 w.params) p loose mean mg mb 56 news (v1.length ≤ 4) [.str v1 tv1] (fun t => .str (esc 1 v1) t) := by
  k_with_none
  k_with "exec If" => (k_here; (with_reducible show wpAny _ _ (exec (Stmt.If (Expr.Compare _ [CmpOp.In] _ _) _ _ _) _) _ _ _); (rename Fr _ _ _ _ => F'Z); (rename News _ _ _ _ => N'Z); k_dflt ((with_unfolding_all refine' Mine.esc_if F'Z N'Z ?hm ?_ ?hl ?hk ?hy ?hyz ?hx ?hz ?hp); (case hm => with_unfolding_all rfl); (case hl => rfl); (case hk => rfl); (case hy => exact ⟨_, by first | exact Mine.lamp | exact Mine.llt | exact Mine.lgt | exact Mine.lquo | exact Mine.lcr | exact Mine.lnl | exact Mine.ltab⟩); (case hyz => decide +kernel); (case hx => omega); (case hz => decide +kernel); (case hp => rfl); intro _ _ _ _ F'Z N'Z; (try k_sweep)))
  k_fill
  intro dp un gd cn cs a ccd cl outer A₀ base h₀ L m s Q E B F X N T hk
  intro hp hd hu hret
  refine wpAny_call ?_
  k_dflt cell_enter
  k_steps
  all_goals (refine cb_retS hret ?_ (by k_asm) (by k_asm); exact r1_esc v1)
theorem esc2_C (w : World) (p : Program) (loose : List PySem.Str) (mean : ExcName → Option Value) (mg mb : PySem.Str → Option Value) (v1 : PySem.Str) (tv1 : CbTok) (news : List (Addr × Obj)) :
  Clm 1 20 PySem.Challenge.rw_yf0014_01.prog w (hd.heap_39 w.params) p loose mean mg mb 63 news (v1.length ≤ 4) [.str v1 tv1] (fun t => .str (esc 2 v1) t) := by
  k_with_none
  k_with "exec If" => (k_here; (with_reducible show wpAny _ _ (exec (Stmt.If (Expr.Compare _ [CmpOp.In] _ _) _ _ _) _) _ _ _); (rename Fr _ _ _ _ => F'Z); (rename News _ _ _ _ => N'Z); k_dflt ((with_unfolding_all refine' Mine.esc_if F'Z N'Z ?hm ?_ ?hl ?hk ?hy ?hyz ?hx ?hz ?hp); (case hm => with_unfolding_all rfl); (case hl => rfl); (case hk => rfl); (case hy => exact ⟨_, by first | exact Mine.lamp | exact Mine.llt | exact Mine.lgt | exact Mine.lquo | exact Mine.lcr | exact Mine.lnl | exact Mine.ltab⟩); (case hyz => decide +kernel); (case hx => omega); (case hz => decide +kernel); (case hp => rfl); intro _ _ _ _ F'Z N'Z; (try k_sweep)))
  k_fill
  intro dp un gd cn cs a ccd cl outer A₀ base h₀ L m s Q E B F X N T hk
  intro hp hd hu hret
  refine wpAny_call ?_
  k_dflt cell_enter
  k_steps
  all_goals (refine cb_retS hret ?_ (by k_asm) (by k_asm); exact r2_esc v1)
theorem esc3_C (w : World) (p : Program) (loose : List PySem.Str) (mean : ExcName → Option Value) (mg mb : PySem.Str → Option Value) (v1 : PySem.Str) (tv1 : CbTok) (news : List (Addr × Obj)) :
  Clm 1 20 PySem.Challenge.rw_yf0014_01.prog w (hd.heap_39 w.params) p loose mean mg mb 70 news (v1.length ≤ 4) [.str v1 tv1] (fun t => .str (esc 3 v1) t) := by
  k_with_none
  k_with "exec If" => (k_here; (with_reducible show wpAny _ _ (exec (Stmt.If (Expr.Compare _ [CmpOp.In] _ _) _ _ _) _) _ _ _); (rename Fr _ _ _ _ => F'Z); (rename News _ _ _ _ => N'Z); k_dflt ((with_unfolding_all refine' Mine.esc_if F'Z N'Z ?hm ?_ ?hl ?hk ?hy ?hyz ?hx ?hz ?hp); (case hm => with_unfolding_all rfl); (case hl => rfl); (case hk => rfl); (case hy => exact ⟨_, by first | exact Mine.lamp | exact Mine.llt | exact Mine.lgt | exact Mine.lquo | exact Mine.lcr | exact Mine.lnl | exact Mine.ltab⟩); (case hyz => decide +kernel); (case hx => omega); (case hz => decide +kernel); (case hp => rfl); intro _ _ _ _ F'Z N'Z; (try k_sweep)))
  k_fill
  intro dp un gd cn cs a ccd cl outer A₀ base h₀ L m s Q E B F X N T hk
  intro hp hd hu hret
  refine wpAny_call ?_
  k_dflt cell_enter
  k_steps
  all_goals (refine cb_retS hret ?_ (by k_asm) (by k_asm); exact r3_esc v1)
theorem esc4_C (w : World) (p : Program) (loose : List PySem.Str) (mean : ExcName → Option Value) (mg mb : PySem.Str → Option Value) (v1 : PySem.Str) (tv1 : CbTok) (news : List (Addr × Obj)) :
  Clm 1 20 PySem.Challenge.rw_yf0014_01.prog w (hd.heap_39 w.params) p loose mean mg mb 77 news (v1.length ≤ 4) [.str v1 tv1] (fun t => .str (esc 4 v1) t) := by
  k_with_none
  k_with "exec If" => (k_here; (with_reducible show wpAny _ _ (exec (Stmt.If (Expr.Compare _ [CmpOp.In] _ _) _ _ _) _) _ _ _); (rename Fr _ _ _ _ => F'Z); (rename News _ _ _ _ => N'Z); k_dflt ((with_unfolding_all refine' Mine.esc_if F'Z N'Z ?hm ?_ ?hl ?hk ?hy ?hyz ?hx ?hz ?hp); (case hm => with_unfolding_all rfl); (case hl => rfl); (case hk => rfl); (case hy => exact ⟨_, by first | exact Mine.lamp | exact Mine.llt | exact Mine.lgt | exact Mine.lquo | exact Mine.lcr | exact Mine.lnl | exact Mine.ltab⟩); (case hyz => decide +kernel); (case hx => omega); (case hz => decide +kernel); (case hp => rfl); intro _ _ _ _ F'Z N'Z; (try k_sweep)))
  k_fill
  intro dp un gd cn cs a ccd cl outer A₀ base h₀ L m s Q E B F X N T hk
  intro hp hd hu hret
  refine wpAny_call ?_
  k_dflt cell_enter
  k_steps
  all_goals (refine cb_retS hret ?_ (by k_asm) (by k_asm); exact r4_esc v1)
end Mine
end
section
open PySem PySem.W PyProof.Rows
set_option Elab.async false
set_option linter.all false
namespace Mine
set_option maxRecDepth 100000
set_option maxHeartbeats 8000000
theorem write_C (w : World) (p : Program) (loose : List PySem.Str) (mean : ExcName → Option Value) (mg mb : PySem.Str → Option Value) (v : Int) (tv : CbTok) (v1 : PySem.Str) (tv1 : CbTok) (news : List (Addr × Obj)) :
  Clm 2 60 PySem.Challenge.rw_yf0014_01.prog w (hd.heap_39 w.params) p loose mean mg mb 91 news ((0 ≤ v ∧ v ≤ 4) ∧ v1.length ≤ 4) [.int v tv, .str v1 tv1] (fun t => .str (esc v v1) t) := by
  k_with_none
  k_with "call ref" => (k_here; k_dflt (refine' Mine.clm_use (Mine.esc0_C _ _ _ _ _ _ _ _ _) ?k1 ?k2 ?k3 ?k4 ?k5 ?kK ?kp ?kd ?ku ?_; (case k1 => k_asm); (case k2 => k_asm); (case k3 => k_asm); (case k4 => k_asm); (case k5 => k_asm); (case kK => first | exact rfl | assumption); (case kp => first | assumption | omega); (case kd => ktr_room); (case ku => ktr_units)); intro _ _ _ _ _; (try dsimp only); (try k_fold))
  k_with "call ref" => (k_here; k_dflt (refine' Mine.clm_use (Mine.esc1_C _ _ _ _ _ _ _ _ _) ?k1 ?k2 ?k3 ?k4 ?k5 ?kK ?kp ?kd ?ku ?_; (case k1 => k_asm); (case k2 => k_asm); (case k3 => k_asm); (case k4 => k_asm); (case k5 => k_asm); (case kK => first | exact rfl | assumption); (case kp => first | assumption | omega); (case kd => ktr_room); (case ku => ktr_units)); intro _ _ _ _ _; (try dsimp only); (try k_fold))
  k_with "call ref" => (k_here; k_dflt (refine' Mine.clm_use (Mine.esc2_C _ _ _ _ _ _ _ _ _) ?k1 ?k2 ?k3 ?k4 ?k5 ?kK ?kp ?kd ?ku ?_; (case k1 => k_asm); (case k2 => k_asm); (case k3 => k_asm); (case k4 => k_asm); (case k5 => k_asm); (case kK => first | exact rfl | assumption); (case kp => first | assumption | omega); (case kd => ktr_room); (case ku => ktr_units)); intro _ _ _ _ _; (try dsimp only); (try k_fold))
  k_with "call ref" => (k_here; k_dflt (refine' Mine.clm_use (Mine.esc3_C _ _ _ _ _ _ _ _ _) ?k1 ?k2 ?k3 ?k4 ?k5 ?kK ?kp ?kd ?ku ?_; (case k1 => k_asm); (case k2 => k_asm); (case k3 => k_asm); (case k4 => k_asm); (case k5 => k_asm); (case kK => first | exact rfl | assumption); (case kp => first | assumption | omega); (case kd => ktr_room); (case ku => ktr_units)); intro _ _ _ _ _; (try dsimp only); (try k_fold))
  k_with "call ref" => (k_here; k_dflt (refine' Mine.clm_use (Mine.esc4_C _ _ _ _ _ _ _ _ _) ?k1 ?k2 ?k3 ?k4 ?k5 ?kK ?kp ?kd ?ku ?_; (case k1 => k_asm); (case k2 => k_asm); (case k3 => k_asm); (case k4 => k_asm); (case k5 => k_asm); (case kK => first | exact rfl | assumption); (case kp => first | assumption | omega); (case kd => ktr_room); (case ku => ktr_units)); intro _ _ _ _ _; (try dsimp only); (try k_fold))
  k_fill
  intro dp un gd cn cs a ccd cl outer A₀ base h₀ L m s Q E B F X N T hk
  intro hp hd hu hret
  obtain ⟨hp0, hp1⟩ := hp
  refine wpAny_call ?_
  k_dflt cell_enter
  k_steps
  all_goals (refine cb_retS hret ?_ (by k_asm) (by k_asm); exact congrArg (fun q => esc q v1) (by omega))
/-- the three-way answer -/
noncomputable def collV (a b : PySem.Str) : Int := b2i (decide (b.cps.toList < a.cps.toList)) - b2i (decide (a.cps.toList < b.cps.toList))
theorem strcoll_C (w : World) (p : Program) (loose : List PySem.Str) (mean : ExcName → Option Value) (mg mb : PySem.Str → Option Value) (v1 : PySem.Str) (tv1 : CbTok) (v2 : PySem.Str) (tv2 : CbTok) (news : List (Addr × Obj)) :
  Clm 1 20 PySem.Challenge.rw_yf0014_01.prog w (hd.heap_39 w.params) p loose mean mg mb 21 news (True) [.str v1 tv1, .str v2 tv2] (fun t => .int (collV v1 v2) t) := by
  k_with_none
  k_with "call ref" => (k_here; k_dflt (refine' Mine.clm_use (Mine.esc0_C _ _ _ _ _ _ _ _ _) ?k1 ?k2 ?k3 ?k4 ?k5 ?kK ?kp ?kd ?ku ?_; (case k1 => k_asm); (case k2 => k_asm); (case k3 => k_asm); (case k4 => k_asm); (case k5 => k_asm); (case kK => first | exact rfl | assumption); (case kp => first | assumption | omega); (case kd => ktr_room); (case ku => ktr_units)); intro _ _ _ _ _; (try dsimp only); (try k_fold))
  k_with "call ref" => (k_here; k_dflt (refine' Mine.clm_use (Mine.esc1_C _ _ _ _ _ _ _ _ _) ?k1 ?k2 ?k3 ?k4 ?k5 ?kK ?kp ?kd ?ku ?_; (case k1 => k_asm); (case k2 => k_asm); (case k3 => k_asm); (case k4 => k_asm); (case k5 => k_asm); (case kK => first | exact rfl | assumption); (case kp => first | assumption | omega); (case kd => ktr_room); (case ku => ktr_units)); intro _ _ _ _ _; (try dsimp only); (try k_fold))
  k_with "call ref" => (k_here; k_dflt (refine' Mine.clm_use (Mine.esc2_C _ _ _ _ _ _ _ _ _) ?k1 ?k2 ?k3 ?k4 ?k5 ?kK ?kp ?kd ?ku ?_; (case k1 => k_asm); (case k2 => k_asm); (case k3 => k_asm); (case k4 => k_asm); (case k5 => k_asm); (case kK => first | exact rfl | assumption); (case kp => first | assumption | omega); (case kd => ktr_room); (case ku => ktr_units)); intro _ _ _ _ _; (try dsimp only); (try k_fold))
  k_with "call ref" => (k_here; k_dflt (refine' Mine.clm_use (Mine.esc3_C _ _ _ _ _ _ _ _ _) ?k1 ?k2 ?k3 ?k4 ?k5 ?kK ?kp ?kd ?ku ?_; (case k1 => k_asm); (case k2 => k_asm); (case k3 => k_asm); (case k4 => k_asm); (case k5 => k_asm); (case kK => first | exact rfl | assumption); (case kp => first | assumption | omega); (case kd => ktr_room); (case ku => ktr_units)); intro _ _ _ _ _; (try dsimp only); (try k_fold))
  k_with "call ref" => (k_here; k_dflt (refine' Mine.clm_use (Mine.esc4_C _ _ _ _ _ _ _ _ _) ?k1 ?k2 ?k3 ?k4 ?k5 ?kK ?kp ?kd ?ku ?_; (case k1 => k_asm); (case k2 => k_asm); (case k3 => k_asm); (case k4 => k_asm); (case k5 => k_asm); (case kK => first | exact rfl | assumption); (case kp => first | assumption | omega); (case kd => ktr_room); (case ku => ktr_units)); intro _ _ _ _ _; (try dsimp only); (try k_fold))
  k_fill
  intro dp un gd cn cs a ccd cl outer A₀ base h₀ L m s Q E B F X N T hk
  intro hp hd hu hret
  refine wpAny_call ?_
  k_dflt cell_enter
  k_steps
  all_goals (refine cb_retI hret ?_ (by k_asm) (by k_asm); rfl)
theorem strxfrm_C (w : World) (p : Program) (loose : List PySem.Str) (mean : ExcName → Option Value) (mg mb : PySem.Str → Option Value) (v1 : PySem.Str) (tv1 : CbTok) (news : List (Addr × Obj)) :
  Clm 1 20 PySem.Challenge.rw_yf0014_01.prog w (hd.heap_39 w.params) p loose mean mg mb 28 news (True) [.str v1 tv1] (fun _ => .str v1 tv1) := by
  k_with_none
  k_with "call ref" => (k_here; k_dflt (refine' Mine.clm_use (Mine.esc0_C _ _ _ _ _ _ _ _ _) ?k1 ?k2 ?k3 ?k4 ?k5 ?kK ?kp ?kd ?ku ?_; (case k1 => k_asm); (case k2 => k_asm); (case k3 => k_asm); (case k4 => k_asm); (case k5 => k_asm); (case kK => first | exact rfl | assumption); (case kp => first | assumption | omega); (case kd => ktr_room); (case ku => ktr_units)); intro _ _ _ _ _; (try dsimp only); (try k_fold))
  k_with "call ref" => (k_here; k_dflt (refine' Mine.clm_use (Mine.esc1_C _ _ _ _ _ _ _ _ _) ?k1 ?k2 ?k3 ?k4 ?k5 ?kK ?kp ?kd ?ku ?_; (case k1 => k_asm); (case k2 => k_asm); (case k3 => k_asm); (case k4 => k_asm); (case k5 => k_asm); (case kK => first | exact rfl | assumption); (case kp => first | assumption | omega); (case kd => ktr_room); (case ku => ktr_units)); intro _ _ _ _ _; (try dsimp only); (try k_fold))
  k_with "call ref" => (k_here; k_dflt (refine' Mine.clm_use (Mine.esc2_C _ _ _ _ _ _ _ _ _) ?k1 ?k2 ?k3 ?k4 ?k5 ?kK ?kp ?kd ?ku ?_; (case k1 => k_asm); (case k2 => k_asm); (case k3 => k_asm); (case k4 => k_asm); (case k5 => k_asm); (case kK => first | exact rfl | assumption); (case kp => first | assumption | omega); (case kd => ktr_room); (case ku => ktr_units)); intro _ _ _ _ _; (try dsimp only); (try k_fold))
  k_with "call ref" => (k_here; k_dflt (refine' Mine.clm_use (Mine.esc3_C _ _ _ _ _ _ _ _ _) ?k1 ?k2 ?k3 ?k4 ?k5 ?kK ?kp ?kd ?ku ?_; (case k1 => k_asm); (case k2 => k_asm); (case k3 => k_asm); (case k4 => k_asm); (case k5 => k_asm); (case kK => first | exact rfl | assumption); (case kp => first | assumption | omega); (case kd => ktr_room); (case ku => ktr_units)); intro _ _ _ _ _; (try dsimp only); (try k_fold))
  k_with "call ref" => (k_here; k_dflt (refine' Mine.clm_use (Mine.esc4_C _ _ _ _ _ _ _ _ _) ?k1 ?k2 ?k3 ?k4 ?k5 ?kK ?kp ?kd ?ku ?_; (case k1 => k_asm); (case k2 => k_asm); (case k3 => k_asm); (case k4 => k_asm); (case k5 => k_asm); (case kK => first | exact rfl | assumption); (case kp => first | assumption | omega); (case kd => ktr_room); (case ku => ktr_units)); intro _ _ _ _ _; (try dsimp only); (try k_fold))
  k_fill
  intro dp un gd cn cs a ccd cl outer A₀ base h₀ L m s Q E B F X N T hk
  intro hp hd hu hret
  refine wpAny_call ?_
  k_dflt cell_enter
  k_steps
  all_goals (exact hret 0 _ _ (by k_asm) (by k_asm))
/-- the escape's own alphabet -/
noncomputable def alphaV (v : Int) : PySem.Str := if v = 0 then PySem.Str.ofString "\t\n\r\"#&><;" else if v = 1 then PySem.Str.ofString "#\t\n\r&><\";" else if v = 2 then PySem.Str.ofString "\t\n\r#&>\";<" else if v = 3 then PySem.Str.ofString "\t\n\"#\r&><;" else PySem.Str.ofString "#\t\n\r&<\";>"
theorem alpha_C (w : World) (p : Program) (loose : List PySem.Str) (mean : ExcName → Option Value) (mg mb : PySem.Str → Option Value) (v : Int) (tv : CbTok) (news : List (Addr × Obj)) :
  Clm 1 20 PySem.Challenge.rw_yf0014_01.prog w (hd.heap_39 w.params) p loose mean mg mb 103 news (True) [.int v tv] (fun t => .str (alphaV v) t) := by
  k_with_none
  k_with "call ref" => (k_here; k_dflt (refine' Mine.clm_use (Mine.esc0_C _ _ _ _ _ _ _ _ _) ?k1 ?k2 ?k3 ?k4 ?k5 ?kK ?kp ?kd ?ku ?_; (case k1 => k_asm); (case k2 => k_asm); (case k3 => k_asm); (case k4 => k_asm); (case k5 => k_asm); (case kK => first | exact rfl | assumption); (case kp => first | assumption | omega); (case kd => ktr_room); (case ku => ktr_units)); intro _ _ _ _ _; (try dsimp only); (try k_fold))
  k_with "call ref" => (k_here; k_dflt (refine' Mine.clm_use (Mine.esc1_C _ _ _ _ _ _ _ _ _) ?k1 ?k2 ?k3 ?k4 ?k5 ?kK ?kp ?kd ?ku ?_; (case k1 => k_asm); (case k2 => k_asm); (case k3 => k_asm); (case k4 => k_asm); (case k5 => k_asm); (case kK => first | exact rfl | assumption); (case kp => first | assumption | omega); (case kd => ktr_room); (case ku => ktr_units)); intro _ _ _ _ _; (try dsimp only); (try k_fold))
  k_with "call ref" => (k_here; k_dflt (refine' Mine.clm_use (Mine.esc2_C _ _ _ _ _ _ _ _ _) ?k1 ?k2 ?k3 ?k4 ?k5 ?kK ?kp ?kd ?ku ?_; (case k1 => k_asm); (case k2 => k_asm); (case k3 => k_asm); (case k4 => k_asm); (case k5 => k_asm); (case kK => first | exact rfl | assumption); (case kp => first | assumption | omega); (case kd => ktr_room); (case ku => ktr_units)); intro _ _ _ _ _; (try dsimp only); (try k_fold))
  k_with "call ref" => (k_here; k_dflt (refine' Mine.clm_use (Mine.esc3_C _ _ _ _ _ _ _ _ _) ?k1 ?k2 ?k3 ?k4 ?k5 ?kK ?kp ?kd ?ku ?_; (case k1 => k_asm); (case k2 => k_asm); (case k3 => k_asm); (case k4 => k_asm); (case k5 => k_asm); (case kK => first | exact rfl | assumption); (case kp => first | assumption | omega); (case kd => ktr_room); (case ku => ktr_units)); intro _ _ _ _ _; (try dsimp only); (try k_fold))
  k_with "call ref" => (k_here; k_dflt (refine' Mine.clm_use (Mine.esc4_C _ _ _ _ _ _ _ _ _) ?k1 ?k2 ?k3 ?k4 ?k5 ?kK ?kp ?kd ?ku ?_; (case k1 => k_asm); (case k2 => k_asm); (case k3 => k_asm); (case k4 => k_asm); (case k5 => k_asm); (case kK => first | exact rfl | assumption); (case kp => first | assumption | omega); (case kd => ktr_room); (case ku => ktr_units)); intro _ _ _ _ _; (try dsimp only); (try k_fold))
  k_fill
  intro dp un gd cn cs a ccd cl outer A₀ base h₀ L m s Q E B F X N T hk
  intro hp hd hu hret
  refine wpAny_call ?_
  k_dflt cell_enter
  k_steps
  all_goals (refine cb_retS hret ?_ (by k_asm) (by k_asm); unfold alphaV; (repeat' split) <;> first | rfl | (exfalso; omega))
theorem figures_C (w : World) (p : Program) (loose : List PySem.Str) (mean : ExcName → Option Value) (mg mb : PySem.Str → Option Value) (v : Int) (tv : CbTok) (news : List (Addr × Obj)) :
  Clm 1 20 PySem.Challenge.rw_yf0014_01.prog w (hd.heap_39 w.params) p loose mean mg mb 110 news (1 ≤ v ∧ v < 10 ^ 20) [.int v tv] (fun t => .int (figs v) t) := by
  k_with_none
  k_with "call ref" => (k_here; k_dflt (refine' Mine.clm_use (Mine.esc0_C _ _ _ _ _ _ _ _ _) ?k1 ?k2 ?k3 ?k4 ?k5 ?kK ?kp ?kd ?ku ?_; (case k1 => k_asm); (case k2 => k_asm); (case k3 => k_asm); (case k4 => k_asm); (case k5 => k_asm); (case kK => first | exact rfl | assumption); (case kp => first | assumption | omega); (case kd => ktr_room); (case ku => ktr_units)); intro _ _ _ _ _; (try dsimp only); (try k_fold))
  k_with "call ref" => (k_here; k_dflt (refine' Mine.clm_use (Mine.esc1_C _ _ _ _ _ _ _ _ _) ?k1 ?k2 ?k3 ?k4 ?k5 ?kK ?kp ?kd ?ku ?_; (case k1 => k_asm); (case k2 => k_asm); (case k3 => k_asm); (case k4 => k_asm); (case k5 => k_asm); (case kK => first | exact rfl | assumption); (case kp => first | assumption | omega); (case kd => ktr_room); (case ku => ktr_units)); intro _ _ _ _ _; (try dsimp only); (try k_fold))
  k_with "call ref" => (k_here; k_dflt (refine' Mine.clm_use (Mine.esc2_C _ _ _ _ _ _ _ _ _) ?k1 ?k2 ?k3 ?k4 ?k5 ?kK ?kp ?kd ?ku ?_; (case k1 => k_asm); (case k2 => k_asm); (case k3 => k_asm); (case k4 => k_asm); (case k5 => k_asm); (case kK => first | exact rfl | assumption); (case kp => first | assumption | omega); (case kd => ktr_room); (case ku => ktr_units)); intro _ _ _ _ _; (try dsimp only); (try k_fold))
  k_with "call ref" => (k_here; k_dflt (refine' Mine.clm_use (Mine.esc3_C _ _ _ _ _ _ _ _ _) ?k1 ?k2 ?k3 ?k4 ?k5 ?kK ?kp ?kd ?ku ?_; (case k1 => k_asm); (case k2 => k_asm); (case k3 => k_asm); (case k4 => k_asm); (case k5 => k_asm); (case kK => first | exact rfl | assumption); (case kp => first | assumption | omega); (case kd => ktr_room); (case ku => ktr_units)); intro _ _ _ _ _; (try dsimp only); (try k_fold))
  k_with "call ref" => (k_here; k_dflt (refine' Mine.clm_use (Mine.esc4_C _ _ _ _ _ _ _ _ _) ?k1 ?k2 ?k3 ?k4 ?k5 ?kK ?kp ?kd ?ku ?_; (case k1 => k_asm); (case k2 => k_asm); (case k3 => k_asm); (case k4 => k_asm); (case k5 => k_asm); (case kK => first | exact rfl | assumption); (case kp => first | assumption | omega); (case kd => ktr_room); (case ku => ktr_units)); intro _ _ _ _ _; (try dsimp only); (try k_fold))
  k_fill
  intro dp un gd cn cs a ccd cl outer A₀ base h₀ L m s Q E B F X N T hk
  intro hp hd hu hret
  obtain ⟨hp1, hp2⟩ := hp
  k_with "exec While Compare cons nil" => k_while (fun _ count => 1 ≤ count ∧ count ≤ 21 ∧ 10 ^ (count-1).toNat ≤ v) (fun _ count => (25 - count).toNat) "count"
  k_with "state" => first | exact fig_start hp1 | exact fig_step (by assumption) (by assumption) (by assumption) hp2
  refine wpAny_call ?_
  k_dflt cell_enter
  k_steps
  all_goals first | (refine cb_retI hret ?_ (by k_asm) (by k_asm); exact (figs_uniq (by assumption) (by assumption) (Int.lt_of_not_ge (by assumption))).symm) | w_report
end Mine
end
section
open PySem PySem.W PyProof.Rows
set_option Elab.async false
set_option linter.all false
namespace Mine
set_option maxRecDepth 100000
set_option maxHeartbeats 8000000
open PySem.F in
theorem mro_filter : mroOf (.type "filter") = pure [.type "filter", .type "object"] := by rw [mroOf_type]; kernel_rfl
theorem lookup_filter_new : typeLookup (.type "filter") "__new__" = pure (some (.builtin "filter.__new__")) := by rw [typeLookup_type, builtinLookup_eq_fast]; kernel_rfl
theorem slot_filter_init : Slot "filter" "__init__" "object.__init__" :=
  .of (owner := "object") (n := "__init__") (by rw [typeLookup_type, builtinLookup_eq_fast]; kernel_rfl) (by decide +kernel) (by decide +kernel) (by decide +kernel)
    (by first | exact .inl (by decide +kernel) | exact .inr (by decide +kernel)) (by rw [isSubtype_type]; kernel_rfl)
theorem slot_filter_iter : Slot "filter" "__iter__" "filter.__iter__" :=
  .of (owner := "filter") (n := "__iter__") (by rw [typeLookup_type, builtinLookup_eq_fast]; kernel_rfl) (by decide +kernel) (by decide +kernel) (by decide +kernel)
    (by first | exact .inl (by decide +kernel) | exact .inr (by decide +kernel)) (by rw [isSubtype_type]; kernel_rfl)
theorem slot_filter_next : Slot "filter" "__next__" "filter.__next__" :=
  .of (owner := "filter") (n := "__next__") (by rw [typeLookup_type, builtinLookup_eq_fast]; kernel_rfl) (by decide +kernel) (by decide +kernel) (by decide +kernel)
    (by first | exact .inl (by decide +kernel) | exact .inr (by decide +kernel)) (by rw [isSubtype_type]; kernel_rfl)
theorem entry_filter_iter : entryFor table "filter.__iter__" = some Builtin.«dict_keyiterator.__iter__» :=
  entryFor_alias (id' := "dict_keyiterator.__iter__") (by kernel_rfl) (by first | rfl | decide +kernel | (unfold String.splitOn; simp +decide [String.splitOnAux])) (by decide +kernel) (by kernel_rfl)
theorem entry_filter_next : entryFor table "filter.__next__" = some Builtin.«filter.__next__» := entryFor_of_tree (by kernel_rfl)
theorem entry_filter_new : entryFor table "filter.__new__" = some Builtin.«filter.__new__» := entryFor_of_tree (by kernel_rfl)
theorem called_filter : TypeCalled "filter" "filter.__new__" "object.__init__" :=
  ⟨by decide +kernel, by decide +kernel, ⟨_, _, mro_filter⟩, madeBy_type mro_filter lookup_filter_new (by decide +kernel), by decide +kernel, by rw [isSubtype_type]; kernel_rfl, slot_filter_init⟩
theorem typeCall_filter_2 (a b : Value) : checkTypeCall "filter" ⟨[a, b], []⟩ = pure () := by kernel_rfl
theorem newCall_filter_2 (a b : Value) : checkBuiltinCall "filter.__new__" ⟨[.type "filter", a, b], []⟩ = pure () := by kernel_rfl
theorem args_filter_next_1 (a : Value) : argsOk "filter.__next__" ⟨[a], []⟩ := by unfold argsOk; kernel_rfl
theorem args_filter_iter_1 (a : Value) : argsOk "filter.__iter__" ⟨[a], []⟩ := by unfold argsOk; kernel_rfl
theorem args_object_init_3 (a b c : Value) : argsOk "object.__init__" ⟨[a, b, c], []⟩ := by unfold argsOk; kernel_rfl
theorem sub_filter : isSubtype (.type "filter") (.type "filter") = pure true := by rw [isSubtype_type]; kernel_rfl
section
variable {prog : Program} {w : World} {K : Type} [DecidableEq K] {knd : KeyKind prog w K} {A : Around} {E : Value → Shared → Prop} {s : Shared}
open PySem.Builtin in
/-- one step of a values' iterator, as a call -/
theorem valnext {it d : Addr} {i ep : Nat} {kvs : List (K × Value)} {Q : Value → Shared → Prop} (hh : A.handled = none) (hit : s.heap.IsValIter it d i kvs.length ep) (hm : s.heap.DictAt knd d kvs ep)
    (hQ : ∀ k v h', kvs[i]? = some (k, v) → h'.IsValIter it d (i + 1) kvs.length ep → Heap.SameBut it s.heap h' → Q v { s with heap := h' })
    (hE : ∀ e h', kvs[i]? = none → ({ s with heap := h' } : Shared).TypeIs e "StopIteration" → Heap.ExtBut it s.heap h' → E e { s with heap := h' }) :
    wpAny (model prog w) A (call (.builtin "dict_valueiterator.__next__") [.ref it]) Q E s := by
  obtain ⟨o, ho, hc, hd⟩ := id hit
  obtain ⟨od, es, hod, hcd, hdd, hk, hp, hn⟩ := id hm
  have hsz : es.size = kvs.length := by rw [← hp.length]; simp
  have hown : Dict_items.ownsTuple "dict_valueiterator" = false := by decide
  refine wpAny_call_entry F.slot_dict_valueiterator_next hit.typeIs F.entry_dict_valueiterator_next ?_ (F.args_dict_valueiterator_next_1 _)
  refine wpAny_bind (wpAny_pure (wpAny_bind (wpAny_bind (wpAny_bind (wpAny_typeNameOfWhole_valiter hit.typeIs (wpAny_pure ?_))))))
  refine wpAny_bind (wpAny_fieldsOf ho hd ?_)
  simp only [hown, Bool.false_eq_true, if_false]
  show wpAny _ _ (if (Value.ref d == Value.none) = true then _ else _) _ _ s
  rw [if_neg (show ¬ ((Value.ref d == Value.none) = true) from Bool.false_ne_true)]
  refine wpAny_bind (wpAny_pure (wpAny_bind (wpAny_dictEntries hod hdd ?_)))
  rw [if_neg (by rw [hsz]; simp)]
  refine wpAny_bind (wpAny_pure (wpAny_bind (wpAny_dictEpoch hod hdd ?_)))
  rw [if_neg (by simp)]
  refine wpAny_pure ?_
  simp only [show ¬ ((i : Int) < 0) from by omega, if_false, Int.toNat_natCast]
  cases hx : es[i]? with
  | none =>
    have hge : es.size ≤ i := Array.getElem?_eq_none_iff.mp hx
    refine wpAny_bind (wpAny_bind (wpAny_typeNameOfWhole_valiter hit.typeIs (wpAny_pure ?_)))
    show wpAny _ _ (setField (.ref it) 0 .none >>= _) _ _ s
    refine wpAny_bind (wpAny_setField ho hd (by simp) ?_)
    show wpAny _ _ (newExc (.type "StopIteration") [] >>= _) _ _ _
    refine wpAny_bind ?_
    simp only [newExc, newTuple]
    refine wpAny_bind (wpAny_newObj_type ?_ (by size_fits))
    refine wpAny_bind (m := firstArgMember _ _) (wpAny_of_eq (a := Value.none) (by first | rfl | (simp only [firstArgMember]; rfl)) ?_)
    refine wpAny_newObj_type ?_ (by size_fits)
    simp only [raiseNew]
    refine wpAny_bind (wpAny_handled ?_)
    rw [show A.in1.handled = none from hh]
    refine wpAny_bind (wpAny_pure (wpAny_throw ?_))
    exact hE _ _ (List.getElem?_eq_none (by omega)) ⟨_, Heap.get?_push_size _ rfl, rfl⟩ (((Heap.SameBut.update ..).extBut.push _).push _)
  | some e =>
    have hlt : i < es.size := (Array.getElem?_eq_some_iff.mp hx).1
    obtain ⟨⟨k, v⟩, hkv⟩ : ∃ q, kvs[i]? = some q := ⟨kvs[i], by simp [show i < kvs.length by omega]⟩
    have hval : e.val = v := (hp.get? (e := e) (by simpa using hx) hkv).2
    refine wpAny_bind (wpAny_bind (wpAny_typeNameOfWhole_valiter hit.typeIs (wpAny_pure ?_)))
    refine wpAny_bind (wpAny_isOneOf_valiter hit.typeIs ?_)
    show wpAny _ _ (setField (.ref it) 1 (rawInt ((i : Int) + 1)) >>= _) _ _ s
    refine wpAny_bind (wpAny_setField ho hd (by simp) ?_)
    have hit' : (s.heap.update it (Obj.mapFields (·.setIfInBounds 1 (rawInt ((i : Int) + 1))))).IsValIter it d (i + 1) kvs.length ep :=
      ⟨_, Heap.get?_update_self _ ho (Obj.isFreed_of_fields (Obj.data_mapFields hd _)), (Obj.cls_mapFields ..).trans hc, by rw [Obj.data_mapFields hd]; simp [rawInt]⟩
    refine wpAny_bind (wpAny_holding ?_)
    refine wpAny_bind (wpAny_isOneOf_valiter (s := { s with heap := s.heap.update it (Obj.mapFields (·.setIfInBounds 1 (rawInt ((i : Int) + 1)))) }) hit'.typeIs ?_)
    refine wpAny_bind (wpAny_isOneOf_valiter (s := { s with heap := s.heap.update it (Obj.mapFields (·.setIfInBounds 1 (rawInt ((i : Int) + 1)))) }) hit'.typeIs ?_)
    show wpAny _ _ (pure e.val) _ _ _
    exact wpAny_pure (wpAny_pure ⟨_, rfl, hval ▸ hQ k v _ hkv hit' (Heap.SameBut.update ..)⟩)
end
end Mine
end
section
open PySem PySem.W PyProof.Rows
set_option Elab.async false
set_option linter.all false
namespace Mine
set_option maxRecDepth 100000
set_option maxHeartbeats 8000000
noncomputable def IsFilter (h : Heap) (f i : Addr) : Prop := ∃ o, h.get? f = some o ∧ o.cls = .type "filter" ∧ o.data = .fields #[.none, .ref i]
theorem IsFilter.typeIs {s : Shared} {f i : Addr} (x : IsFilter s.heap f i) : s.TypeIs (.ref f) "filter" := let ⟨o, ho, hc, _⟩ := x; ⟨o, ho, hc⟩
theorem IsFilter.at {h h' : Heap} {f i : Addr} (x : IsFilter h f i) (e : ∀ o, h.get? f = some o → h'.get? f = some o) : IsFilter h' f i := let ⟨o, ho, r⟩ := x; ⟨o, e _ ho, r⟩
section
variable {prog : Program} {w : World} {K : Type} [DecidableEq K] {knd : KeyKind prog w K} {A : Around} {E : Value → Shared → Prop} {s : Shared}
/-- the filter's own step, told by the values' iterator's -/
theorem filt_body {f it d : Addr} {i ep : Nat} {kvs : List (K × Value)} {Q : Fin → Shared → Prop} (hh : A.handled = none) (hF : IsFilter s.heap f it) (hit : s.heap.IsValIter it d i kvs.length ep) (hm : s.heap.DictAt knd d kvs ep)
    (h1 : ∀ k x t h' tk, kvs[i]? = some (k, .int x t) → x ≠ 0 → h'.IsValIter it d (i + 1) kvs.length ep → Heap.SameBut it s.heap h' → Q (.done (.ret (.int x t))) { s with heap := h', toks := tk })
    (h2 : ∀ k h', kvs[i]? = some (k, .none) → h'.IsValIter it d (i + 1) kvs.length ep → Heap.SameBut it s.heap h' → Q (.again (.builtin "filter.__next__" ⟨[.ref f], []⟩)) { s with heap := h' })
    (h3 : ∀ e h', kvs[i]? = none → ({ s with heap := h' } : Shared).TypeIs e "StopIteration" → Heap.ExtBut it s.heap h' → E e { s with heap := h' })
    (hall : ∀ k v, kvs[i]? = some (k, v) → v = .none ∨ ∃ x t, v = .int x t ∧ x ≠ 0) :
    wpAny (model prog w) A (Builtin.«filter.__next__» ⟨[.ref f], []⟩) Q E s := by
  obtain ⟨o, ho, hc, hd⟩ := id hF
  unfold Builtin.«filter.__next__»
  refine wpAny_bind (wpAny_pure ?_)
  refine wpAny_bind (wpAny_field (i := 0) (x := .none) ho hd rfl ?_)
  refine wpAny_bind (wpAny_field (i := 1) (x := .ref it) ho hd rfl ?_)
  refine wpAny_bind (wpAny_callSpecial?_slot (name := PySem.Str.ofString "__next__") hit.typeIs F.slot_dict_valueiterator_next (valnext hh hit hm (fun k v h' hx hit' hs => ?_) (fun e h' hx hT hb => ?_)))
  · show wpAny _ _ (holding [v] _ >>= _) _ _ _
    refine wpAny_bind (wpAny_holding ?_)
    rw [if_pos (by rfl)]
    refine wpAny_bind (wpAny_rule ?_)
    rcases hall k v hx with rfl | ⟨x, t, rfl, hne⟩
    · refine truthy_none ?_
      exact wpAny_pure (h2 k h' hx hit' hs)
    · refine truthy_int ?_
      have e : (x != 0) = true := bne_iff_ne.mpr hne
      rw [e]
      exact wpAny_pure (h1 k x t h' _ hx hne hit' hs)
  · exact h3 e h' hx hT hb
theorem wpAny_pyIter_filter {f it : Addr} {Q : Value → Shared → Prop} (hF : IsFilter s.heap f it) (h : Q (.ref f) s) : wpAny (model prog w) A (pyIter (.ref f)) Q E s := by
  refine wpAny_pyIter_slot hF.typeIs slot_filter_iter (wpAny_call_entry slot_filter_iter hF.typeIs entry_filter_iter ?_ (args_filter_iter_1 _))
  show wpAny _ _ (ret (.ref f)) _ _ s
  exact wpAny_pure ⟨_, rfl, "filter", _, hF.typeIs, slot_filter_next.lookup, h⟩
theorem filt_next {f it d : Addr} {i ep : Nat} {kvs : List (K × Value)} {Q : Option Value → Shared → Prop} (hh : A.handled = none) (hne : f ≠ it) (hdt : d ≠ it) (hF : IsFilter s.heap f it) (hit : s.heap.IsValIter it d i kvs.length ep) (hm : s.heap.DictAt knd d kvs ep)
    (hall : ∀ (i : Nat) k (v : Value), kvs[i]? = some (k, v) → v = .none ∨ ∃ x t, v = .int x t ∧ x ≠ 0)
    (hlast : ∀ k, kvs[i]? = some (k, .none) → kvs[i + 1]? = none)
    (h1 : ∀ k x t h' tk, kvs[i]? = some (k, .int x t) → h'.IsValIter it d (i + 1) kvs.length ep → Heap.SameBut it s.heap h' → Q (some (.int x t)) { s with heap := h', toks := tk })
    (h2 : ∀ h', (∀ k x t, kvs[i]? ≠ some (k, .int x t)) → Heap.ExtBut it s.heap h' → Q none { s with heap := h' }) :
    wpAny (model prog w) A (pyNext (.ref f)) Q E s := by
  unfold pyNext
  refine wpAny_bind (wpAny_attempt (wpAny_callSpecial?_slot (name := PySem.Str.ofString "__next__") hF.typeIs slot_filter_next (wpAny_call (codeAny_call_builtin slot_filter_next.plain entry_filter_next (slot_filter_next.check _ _ _ _ _ _ _ _ hF.typeIs (args_filter_next_1 _) ?_)))))
  have stop : ∀ e h', (∀ k x t, kvs[i]? ≠ some (k, .int x t)) → ({ s with heap := h' } : Shared).TypeIs e "StopIteration" → Heap.ExtBut it s.heap h' →
      wpAny (model prog w) A (do if ← isInstance e (.type "StopIteration") then pure none else throw e : Sem (Option Value)) Q E { s with heap := h' } := by
    intro e h' hx hT hb
    refine wpAny_bind (wpAny_isInstance (T := "StopIteration") (b := true) hT isSubtype_stop ?_)
    exact wpAny_pure (h2 h' hx hb)
  refine filt_body (A := A.in1) (s := s) hh hF hit hm (fun k x t h' tk hx hne' hit' hs => ?_) (fun k h' hx hit' hs => ?_) (fun e h' hx hT hb => ?_) (hall i)
  · exact wpAny_pure (h1 k x t h' tk hx hit' hs)
  · refine ⟨plainId_quiet slot_filter_next.plain _, ?_⟩
    refine codeAny_builtin entry_filter_next ?_
    rw [Around.under_plainId slot_filter_next.plain _]
    have hF' : IsFilter h' f it := hF.at fun o e => hs.extBut f o hne e
    have hm' : h'.DictAt knd d kvs ep := hm.extBut hs.extBut hdt
    have hn := hlast k hx
    refine filt_body (A := A.in1) (s := { s with heap := h' }) hh hF' hit' hm' (fun k x t h'' tk hx' => ?_) (fun k h'' hx' => ?_) (fun e h'' hx' hT hb => ?_) (hall (i + 1))
    · rw [hn] at hx'; cases hx'
    · rw [hn] at hx'; cases hx'
    · exact stop e h'' (fun k' x t hy => by rw [hx] at hy; cases hy) hT fun b o hbne e' => hb b o hbne (hs.extBut b o hbne e')
  · exact stop e h' (fun k x t hy => by rw [hx] at hy; cases hy) hT hb
theorem filt_walks {f it d : Addr} {ep n : Nat} {kvs : List (K × Value)} (hh : A.handled = none) (hne : f ≠ it) (hdt : d ≠ it) (hlen : kvs.length = n + 1)
    (hall : ∀ (i : Nat) k (v : Value), kvs[i]? = some (k, v) → v = .none ∨ ∃ x t, v = .int x t ∧ x ≠ 0) (hfront : ∀ (i : Nat) k, i < n → kvs[i]? ≠ some (k, .none)) (hlast : ∀ k x t, kvs[n]? ≠ some (k, .int x t)) :
    Walks prog w A f [f, it, d] [it] n (fun i v => ∃ k x t, kvs[i]? = some (k, v) ∧ v = Value.int x t) (fun i h => IsFilter h f it ∧ h.IsValIter it d i kvs.length ep ∧ h.DictAt knd d kvs ep) where
  sub := fun b hb => by simp at hb; simp [hb]
  frame := fun _ _ _ st hk => ⟨st.1.at fun o e => hk f (by simp) o e, st.2.1.at fun o e => hk it (by simp) o e, st.2.2.at' fun o e => hk d (by simp) o e⟩
  item := fun i s Q E hi st hQ => by
    obtain ⟨⟨k, v⟩, hx⟩ : ∃ p, kvs[i]? = some p := ⟨kvs[i], by simp [show i < kvs.length by omega]⟩
    refine filt_next hh hne hdt st.1 st.2.1 st.2.2 hall (fun k' hx' => absurd hx' (hfront i k' hi)) (fun k' x t h' tk hx' hit' hs => ?_) (fun h' hx' hb => ?_)
    · exact hQ _ h' tk ⟨k', x, t, hx', rfl⟩ ⟨st.1.at fun o e => hs.extBut f o hne e, hit', st.2.2.extBut hs.extBut hdt⟩ fun b o hb e => hs.extBut b o (fun h => hb (by simp [h])) e
    · rcases hall i k v hx with rfl | ⟨x, t, rfl, _⟩
      · exact absurd hx (hfront i k hi)
      · exact absurd hx (hx' k x t)
  done := fun s Q E st hQ => by
    refine filt_next hh hne hdt st.1 st.2.1 st.2.2 hall (fun k' hx' => List.getElem?_eq_none (by omega)) (fun k' x t h' tk hx' => absurd hx' (hlast k' x t)) (fun h' hx' hb => ?_)
    exact hQ h' s.toks fun b o hb' e => hb b o (fun h => hb' (by simp [h])) e
  self := fun _ _ _ _ st hQ => wpAny_pyIter_filter st.1 hQ
end
section
variable {prog : Program} {w : World} {A : Around} {R : Result → Shared → Prop} {I : Addr} {fp wr : List Addr} {n : Nat} {P : Nat → Value → Prop} {St : Nat → Heap → Prop}
/-- the loop of max where nothing beats the first -/
theorem max_rest (W : Walks prog w A.in1 I fp wr n P St) (v0 : Value) (hcmp : ∀ i v (s : Shared) (Q : Value → Shared → Prop) (E : Value → Shared → Prop), i < n → P i v → Q (.bool false) s → wpAny (model prog w) A.in1 (richCompare .Gt v v0) Q E s) (S : Addr) (hSf : S ∉ fp) (dv : Value) :
    ∀ (k j : Nat) (s : Shared) (c : Nat), n - j = k → j ≤ n → St j s.heap →
    s.heap.get? S = some { cls := .type "list", dict := none, data := .seq #[v0, v0] c, slots := #[] } →
    (∀ h' tk, (∀ b o, b ∉ wr → b ≠ S → s.heap.get? b = some o → h'.get? b = some o) → R (.ok (.ret v0)) { s with heap := h', toks := tk }) →
    codeAny (model prog w) A (.builtin "max.loop" ⟨[.ref I, .none, .ref S], [("default", dv)]⟩) R s := by
  have hSw : S ∉ wr := fun h => hSf (W.sub _ h)
  have hname : (toString "max" ++ toString ".loop" : String) = "max.loop" := by decide
  intro k
  induction k with
  | zero =>
    intro j s c hk hj hst hS hR
    have hin : j = n := by omega
    refine codeAny_builtin F.entry_max_loop ?_
    rw [Around.under_plainId F.plain_max_loop _]
    refine wpAny_bind (wpAny_seqItems hS rfl ?_)
    refine wpAny_bind (wpAny_tryCatch (W.done s _ _ (hin ▸ hst) fun h' tk hk' => ?_))
    have hS' := hk' S _ hSw hS
    refine wpAny_bind ?_
    refine wpAny_updateSeq hS' rfl (wpAny_bind (wpAny_letGo (wpAny_pure ?_)))
    exact hR _ tk fun b o hbw hbS e => (Heap.get?_update_other _ _ (Ne.symm hbS)).trans (hk' b o hbw e)
  | succ k ih =>
    intro j s c hk hj hst hS hR
    have hlt : j < n := by omega
    refine codeAny_builtin F.entry_max_loop ?_
    rw [Around.under_plainId F.plain_max_loop _]
    refine wpAny_bind (wpAny_seqItems hS rfl ?_)
    refine wpAny_bind (wpAny_tryCatch (W.item j s _ _ hlt hst fun v h' tk hP hst' hk' => ?_))
    have hS' := hk' S _ hSw hS
    show wpAny _ A.in1 (tryCatch (holding [v, v] (richCompare .Gt v v0 >>= _)) _ >>= _) _ _ _
    refine wpAny_bind (wpAny_tryCatch (wpAny_holding (wpAny_bind (hcmp j v _ _ _ hlt hP ?_))))
    refine wpAny_bind (wpAny_holding (wpAny_truthy_bool ?_))
    refine wpAny_bind (wpAny_letGo (wpAny_pure ?_))
    simp only [Bool.false_eq_true, if_false]
    refine wpAny_bind (wpAny_letGo ?_)
    rw [hname]
    refine wpAny_pure ⟨plainId_quiet F.plain_max_loop _, ih (j + 1) _ c (by omega) hlt hst' hS' fun h'' tk'' hk'' => ?_⟩
    exact hR h'' tk'' fun b o hbw hbS e => hk'' b o hbw hbS (hk' b o hbw e)
theorem args_max_default (a v : Value) : argsOk "max" ⟨[a], [("default", v)]⟩ := by unfold argsOk; kernel_rfl
end
section
variable {prog : Program} {w : World} {A : Around} {E : Value → Shared → Prop} {s : Shared}
theorem call_max_default {x dv : Value} {Q : Value → Shared → Prop}
    (h : wpAny (model prog w) A.in1 (pyIter x) (fun it s₂ => ∃ I fp wr n P St, it = .ref I ∧ Walks prog w A.in1 I fp wr n P St ∧ St 0 s₂.heap ∧ (∀ b ∈ fp, b < s₂.heap.objs.size) ∧ 0 < n ∧
      ∀ v0, P 0 v0 → (∀ i v (s : Shared) (Q : Value → Shared → Prop) (E : Value → Shared → Prop), i < n → P i v → Q (.bool false) s → wpAny (model prog w) A.in1 (richCompare .Gt v v0) Q E s) ∧
        ∀ h' tk, (∀ b o, b ∉ wr → s₂.heap.get? b = some o → h'.get? b = some o) → Q v0 { s₂ with heap := h', toks := tk }) E s) :
    wpAny (model prog w) A (call (.builtin "max") [x] [("default", dv)]) Q E s := by
  have hname : (toString "max" ++ toString ".loop" : String) = "max.loop" := by decide
  refine kmb_tree F.kind_max F.plain_max F.entry_max (args_max_default _ _) ?_
  show wpAny _ A.in1 (Builtin.Builtins.bindParams "max" ["key", "default"] 0 ⟨[], [(PySem.Str.ofString "default", dv)]⟩ >>= _) _ _ s
  refine wpAny_bind (wpAny_of_eq (show Builtin.Builtins.bindParams "max" ["key", "default"] 0 ⟨[], [(PySem.Str.ofString "default", dv)]⟩ = pure [none, some dv] from rfl) ?_)
  refine wpAny_bind (wpAny_pure ?_)
  refine wpAny_bind (wpAny_mono h (fun it s₂ h₂ => ?_) fun _ _ e => e)
  obtain ⟨I, fp, wr, n, P, St, rfl, W, hst, hfp, hn, hQ⟩ := h₂
  refine wpAny_bind (wpAny_newObj_type ?_)
  have hSf : s₂.heap.objs.size ∉ fp := fun hm => Nat.lt_irrefl _ (hfp _ hm)
  have hSw : s₂.heap.objs.size ∉ wr := fun h => hSf (W.sub _ h)
  rw [hname]
  refine wpAny_pure ⟨plainId_quiet F.plain_max_loop _, ?_⟩
  refine codeAny_builtin F.entry_max_loop ?_
  rw [Around.under_plainId F.plain_max_loop _]
  refine wpAny_bind (wpAny_seqItems (Heap.get?_push_size _ rfl) rfl ?_)
  refine wpAny_bind (wpAny_tryCatch (W.item 0 _ _ _ hn (W.frame _ _ _ hst fun b _ o e => Heap.get?_push_of_some _ e) fun v h' tk hP hst' hk' => ?_))
  have hS' := hk' s₂.heap.objs.size _ hSw (Heap.get?_push_size _ rfl)
  obtain ⟨hc, hq⟩ := hQ v hP
  show wpAny _ A.in1 (updateSeq s₂.heap.objs.size (fun _ => #[v, v]) >>= _) _ _ _
  refine wpAny_bind ?_
  refine wpAny_updateSeq hS' rfl ?_
  rw [hname]
  refine wpAny_pure ⟨plainId_quiet F.plain_max_loop _, max_rest W v hc s₂.heap.objs.size hSf dv _ 1 _ _ rfl hn (W.frame _ _ _ hst' fun b hbf o e => ?_) (Heap.get?_update_self _ hS' rfl) fun h'' tk'' hk'' => ?_⟩
  · exact (Heap.get?_update_other _ _ (fun h : s₂.heap.objs.size = b => hSf (by rw [h]; exact hbf))).trans e
  · refine hq h'' tk'' fun b o hbw e => ?_
    have hbS : b ≠ s₂.heap.objs.size := Nat.ne_of_lt (Heap.lt_size e)
    exact hk'' b o hbw hbS ((Heap.get?_update_other _ _ (Ne.symm hbS)).trans (hk' b o hbw (Heap.get?_push_of_some _ e)))
end
section
variable {prog : Program} {w : World} {K : Type} [DecidableEq K] {knd : KeyKind prog w K} {A : Around} {E : Value → Shared → Prop} {s : Shared}
theorem filter_new {v d : Addr} {kvs : List (K × Value)} {ep : Nat} :
    MeetsIn prog w (Builtin.«filter.__new__» ⟨[.type "filter", .none, .ref v], []⟩) (fun _ R s => (s.heap.IsValuesView v d ∧ s.heap.DictAt knd d kvs ep) ∧
      R (.ok (.ret (.ref (s.heap.push { cls := .type "dict_valueiterator", data := .fields #[.ref d, .int 0 0, .int kvs.length 0, .int ep 0] }).objs.size))) { s with heap := (s.heap.push { cls := .type "dict_valueiterator", data := .fields #[.ref d, .int 0 0, .int kvs.length 0, .int ep 0] }).push { cls := .type "filter", data := .fields #[.none, .ref s.heap.objs.size] } }) :=
  .of_wp fun A R s ⟨⟨hv, hm⟩, h⟩ => by
    have hsub := sub_filter
    wp_walk using wpAny_pyIter_values hv hm
    exact ⟨_, rfl, h⟩
end
end Mine
end
section
open PySem PySem.W PyProof.Rows
set_option Elab.async false
set_option linter.all false
namespace Mine
set_option maxRecDepth 100000
set_option maxHeartbeats 8000000
abbrev viewO (d : Addr) : Obj := { cls := .type "dict_values", data := .fields #[.ref d] }
abbrev viO (d : Addr) (n ep : Nat) : Obj := { cls := .type "dict_valueiterator", data := .fields #[.ref d, .int 0 0, .int n 0, .int ep 0] }
abbrev filtO (i : Addr) : Obj := { cls := .type "filter", data := .fields #[.none, .ref i] }
section
variable {prog : Program} {w : World} {K : Type} [DecidableEq K] {knd : KeyKind prog w K} {A : Around} {E : Value → Shared → Prop} {s : Shared} {h₀ : Heap} {L d : Addr} {m : PySem.Str → Option Value} {news : List (Addr × Obj)} {kvs : List (K × Value)} {Q : Value → Shared → Prop}
theorem vl_method {pl : Sem Bool} {Q : Value × List Value → Shared → Prop} (F : Fr h₀ L s.heap m) (H : h₀.DictOf knd d kvs) (h : Q (.builtin "dict.values", [.ref d]) s) : wpAny (model prog w) A (getMethod (.ref d) "values" pl) Q E s := by
  have hd := H.keep F.keep
  exact getMethod_builtin hd.typeIs PySem.F.plainAttrs_dict PySem.F.slot_dict_values PySem.F.type_dict_values hd.mapOf.noDict h
theorem vl_values (F : Fr h₀ L s.heap m) (N : News h₀ L s.heap news) (H : h₀.DictOf knd d kvs) (lo : (d == sysModules) = false)
    (h : ∀ v h', Fr h₀ L h' m → News h₀ L h' ((v, viewO d) :: news) → Q (.ref v) { s with heap := h' }) : wpAny (model prog w) A (call (.builtin "dict.values") [.ref d]) Q E s :=
  have hD := H.keep F.keep
  call_meetsIn PySem.F.slot_dict_values hD.typeIs PySem.F.entry_dict_values (PySem.F.args_dict_values_1 _) (meets_dict_values knd d lo) ⟨⟨kvs, hD⟩, h _ _ (F.push _) (News.push F N _)⟩
theorem vl_filter {v : Addr} (F : Fr h₀ L s.heap m) (N : News h₀ L s.heap news) (hv : (v, viewO d) ∈ news) (H : h₀.DictOf knd d kvs)
    (h : ∀ I f ep h', h₀.DictAt knd d kvs ep → Fr h₀ L h' m → I ≠ f → News h₀ L h' ((f, filtO I) :: (I, viO d kvs.length ep) :: news) → Q (.ref f) { s with heap := h' }) : wpAny (model prog w) A (call (.type "filter") [.none, .ref v]) Q E s := by
  obtain ⟨ep, hat⟩ := H.dictAt
  have hat' := hat.at' (h' := s.heap) fun o e => F.keep _ _ e
  have hsz : (s.heap.push (viO d kvs.length ep)).objs.size = s.heap.objs.size + 1 := Heap.size_push ..
  refine callType_newIn called_filter (by decide) (typeCall_filter_2 _ _) (newCall_filter_2 _ _) (fun obj => args_object_init_3 obj _ _) entry_filter_new (filter_new (knd := knd) (v := v) (d := d) (kvs := kvs) (ep := ep)) ⟨⟨⟨_, (N _ hv).1, rfl, rfl⟩, hat'⟩, ?_⟩
  have F1 := F.push (viO d kvs.length ep)
  have N1 := News.push F N (viO d kvs.length ep)
  refine ⟨⟨_, Heap.get?_push_size _ rfl, rfl⟩, ?_⟩
  exact h s.heap.objs.size _ ep _ hat (F1.push (filtO s.heap.objs.size)) (by rw [hsz]; exact Nat.ne_of_lt (Nat.lt_succ_self _)) (News.push F1 N1 (filtO s.heap.objs.size))
theorem vl_max {I f : Addr} {ep n : Nat} {dv : Value} {M : Int} {t0 : Tok} {k0 : K} (hh : A.handled = none) (F : Fr h₀ L s.heap m) (N : News h₀ L s.heap news) (hf : (f, filtO I) ∈ news) (hi : (I, viO d kvs.length ep) ∈ news) (hne : I ≠ f) (H : h₀.DictAt knd d kvs ep)
    (hlen : kvs.length = n + 1) (hn : 0 < n) (hall : ∀ (i : Nat) k (v : Value), kvs[i]? = some (k, v) → v = .none ∨ ∃ x t, v = .int x t ∧ x ≠ 0) (hfront : ∀ (i : Nat) k, i < n → kvs[i]? ≠ some (k, .none)) (hlast : ∀ k x t, kvs[n]? ≠ some (k, .int x t))
    (h0 : kvs[0]? = some (k0, .int M t0)) (hM : ∀ (i : Nat) k x t, i < n → kvs[i]? = some (k, .int x t) → x ≤ M)
    (h : ∀ h' tk, Fr h₀ L h' m → News h₀ L h' [] → Q (.int M t0) { s with heap := h', toks := tk }) : wpAny (model prog w) A (call (.builtin "max") [.ref f] [("default", dv)]) Q E s := by
  have hat := H.at' (h' := s.heap) fun o e => F.keep _ _ e
  have hdI : d ≠ I := by
    obtain ⟨o, es, ho, _⟩ := H
    intro e
    have := (N _ hi).2.2
    rw [← e, ho] at this; cases this
  have hF : IsFilter s.heap f I := ⟨_, (N _ hf).1, rfl, rfl⟩
  refine call_max_default (wpAny_pyIter_filter hF ⟨f, [f, I, d], [I], n, _, _, rfl, filt_walks (knd := knd) (ep := ep) (kvs := kvs) hh (Ne.symm hne) hdI hlen hall hfront hlast, ⟨hF, ⟨_, (N _ hi).1, rfl, rfl⟩, hat⟩, ?_, hn, ?_⟩)
  · intro b hb
    simp only [List.mem_cons, List.not_mem_nil, or_false] at hb
    rcases hb with rfl | rfl | rfl
    · exact Heap.lt_size (N _ hf).1
    · exact Heap.lt_size (N _ hi).1
    · obtain ⟨o, es, ho, _⟩ := hat; exact Heap.lt_size ho
  · rintro v0 ⟨k, x, t, hk, rfl⟩
    rw [h0] at hk
    cases hk
    refine ⟨fun i v s Q E hin hv hq => ?_, fun h' tk hk => ?_⟩
    · obtain ⟨k, x, t, hkx, rfl⟩ := hv
      have hle := hM i k x t hin hkx
      refine gt_int ?_
      rw [decide_eq_false (by omega)]
      exact hq
    · exact h h' tk (LCg.fr_but F hk (Ne.symm (N _ hi).2.1) (N _ hi).2.2) News.nil
end
end Mine
end
section
open PySem PySem.W PyProof.Rows
set_option Elab.async false
set_option linter.all false
namespace Mine
set_option maxRecDepth 100000
set_option maxHeartbeats 8000000
structure WidthOk (kvs : List (Int × Value)) (n : Nat) (M : Int) : Prop where
  len : kvs.length = n + 1
  pos : 0 < n
  all : ∀ (i : Nat) k (v : Value), kvs[i]? = some (k, v) → v = .none ∨ ∃ x t, v = .int x t ∧ x ≠ 0
  front : ∀ (i : Nat) k, i < n → kvs[i]? ≠ some (k, .none)
  last : ∀ k x t, kvs[n]? ≠ some (k, .int x t)
  first : ∃ k t, kvs[0]? = some (k, .int M t)
  top : ∀ (i : Nat) k x t, i < n → kvs[i]? = some (k, .int x t) → x ≤ M
  lo : 1000 ≤ M
  hi : M < 10 ^ 14
theorem width_C (w : World) (p : Program) (loose : List PySem.Str) (mean : ExcName → Option Value) (mg mb : PySem.Str → Option Value) (d : Addr) (o : Obj) (kvs : List (Int × Value)) (n : Nat) (M : Int) (news : List (Addr × Obj)) :
  Clm 1 60 PySem.Challenge.rw_yf0014_01.prog w (hd.heap_39 w.params) p loose mean mg mb 35 news ((d, o) ∈ news ∧ o.IsDictOf (intKind Challenge.rw_yf0014_01.prog w) kvs ∧ (d == sysModules) = false ∧ WidthOk kvs n M) [.ref d] (fun t => .int (figs M) t) := by
  k_with_none
  k_with "ite" => first | rw [if_pos (by decide)] | rw [if_neg (by decide)]
  k_with "getMethod ref" => (k_here; (with_reducible show wpAny _ _ (getMethod (Value.ref _) _ _) _ _ _); k_dflt (refine' Mine.vl_method (K := Int) ?F ?H ?_; (case F => k_asm); (case H => assumption)))
  k_with "call builtin:dict.values" => (k_here; k_dflt (refine' Mine.vl_values (K := Int) ?F ?N ?H ?lo ?_; (case F => k_asm); (case N => k_asm); (case H => assumption); (case lo => assumption)); intro _ _ _ _; (try k_sweep))
  k_with "call type:filter" => (k_here; k_dflt (refine' Mine.vl_filter (K := Int) ?F ?N ?hv ?H ?_; (case F => k_asm); (case N => k_asm); (case hv => k_mem); (case H => assumption)); intro _ _ _ _ _ _ _ _; (try k_sweep))
  k_with "call builtin:max" => (k_here; (rename WidthOk _ _ _ => wok9Z); k_dflt (refine' Mine.vl_max (K := Int) ?hh ?F ?N ?hf ?hi ?ne ?H wok9Z.len wok9Z.pos wok9Z.all wok9Z.front wok9Z.last ?h0 wok9Z.top ?_; (case hh => rfl); (case F => k_asm); (case N => k_asm); (case hf => k_mem); (case hi => k_mem); (case ne => assumption); (case H => assumption); (case h0 => assumption)); intro _ _ _ _; (try k_sweep))
  k_fill
  intro dp un gd cn cs a ccd cl outer A₀ base h₀ L m s Q E B F X N T hk
  intro hp hd hu hret
  obtain ⟨hp0, hp1, hp2, hp3⟩ := hp
  obtain ⟨k0, t0, hp4⟩ := hp3.first
  have hp5 := hp3.lo
  have hp6 := hp3.hi
  refine wpAny_call ?_
  k_dflt (refine' Mine.code_defR ?k1 ?k2 ?k3 ?k4 ?k5 ?kA ?kF ?kK ?k6 ?k7 ?k8 ?k9 ?kB ?_ ?c2 ?c3 ?c4 ?c5; (case kA => exact rfl); (case kF => exact rfl); (case kK => assumption); (case k1 => k_asm); (case k2 => k_asm); (case k3 => k_asm); (case k4 => k_asm); (case k5 => k_asm); (case k6 => k_is); (case k7 => k_is); (case k8 => ktr_room); (case k9 => exact BindsTo.of_eq rfl); (case c5 => decide); (case kB => exact locs rfl); (case c2 => exact rfl); (case c3 => exact rfl); (case c4 => exact rfl); k_whole; intro g' L' h' hL9 Ng FG' F' N' B' X' T'; (try dsimp only); (try k_lift B'); (try k_fold))
  have hD' : g'.DictOf (intKind Challenge.rw_yf0014_01.prog w) d kvs := Heap.dictOf_iff.mpr ⟨o, (Ng _ hp0).1, hp1⟩
  have hlen := text_len (M := M) (by omega)
  have h4 := figs_ge hp5
  k_steps
  all_goals first
    | (exfalso; omega)
    | (exfalso; simp only [hlen] at *; split at * <;> omega)
    | (refine cb_retI hret ?_ (by k_asm) (Mine.news_keeps Ng (by k_asm)); rw [hlen, if_pos (by omega)])
end Mine
end
section
open PySem PySem.W PyProof.Rows
set_option Elab.async false
set_option linter.all false
namespace Mine
set_option maxRecDepth 100000
set_option maxHeartbeats 8000000
theorem rank_in {f n : Int} (h : 1 ≤ f ∧ f ≤ 12) (hm : n ∈ [f, f ^ Int.toNat 2, f ^ Int.toNat 3, f ^ Int.toNat 4]) : 1 ≤ n ∧ n < 10 ^ 20 := by
  obtain ⟨h1, h2⟩ := h
  have : f = 1 ∨ f = 2 ∨ f = 3 ∨ f = 4 ∨ f = 5 ∨ f = 6 ∨ f = 7 ∨ f = 8 ∨ f = 9 ∨ f = 10 ∨ f = 11 ∨ f = 12 := by omega
  simp only [List.mem_cons, List.not_mem_nil, or_false] at hm
  rcases this with h | h | h | h | h | h | h | h | h | h | h | h <;> subst h <;> rcases hm with h | h | h | h <;> subst h <;> decide
theorem figs_bnd {v : Int} (h : 1 ≤ v ∧ v < 10 ^ 20) : 1 ≤ figs v ∧ figs v ≤ 20 := by
  refine ⟨figs_pos v, ?_⟩
  have h1 := figs_le h.1
  have h2 := Int.lt_of_le_of_lt h1 h.2
  rw [ten_cast, ten_cast] at h2
  have := pow10_lt (Int.ofNat_lt.mp h2)
  omega
/-- does the product of v and n carry -/
noncomputable def carry (v n : Int) : Int := if 10 ^ (figs v + figs n - 1).toNat ≤ v * n then 1 else 0
noncomputable def carries (v : Int) : List Int → Int
  | [] => 0
  | n :: r => carry v n + carries v r
theorem carries_app (v : Int) : ∀ l : List Int, ∀ n, carries v (l ++ [n]) = carries v l + carry v n
  | [], n => by simp [carries]
  | a :: r, n => by
    rw [List.cons_append, carries, carries, carries_app v r n]; omega
theorem carries_yes {v n a : Int} {l : List Int} (h : a = carries v l) (c : 10 ^ (figs v + figs n - 1).toNat ≤ v * n) : a + 1 = carries v (l ++ [n]) := by
  rw [carries_app, carry, if_pos c, h]
theorem carries_no {v n a : Int} {l : List Int} (h : a = carries v l) (c : ¬ 10 ^ (figs v + figs n - 1).toNat ≤ v * n) : a = carries v (l ++ [n]) := by
  rw [carries_app, carry, if_neg c, h]; omega
noncomputable def rankV (v f : Int) : Int := carries v [f, f ^ 2, f ^ 3, f ^ 4]
noncomputable def RankEnd (h₀ : Heap) (L : Addr) (m : PySem.Str → Option Value) (news : List (Addr × Obj)) (r : Int) (s : Shared) (fl : Flow) (s' : Shared) : Prop :=
  fl = .next ∧ ∃ h' tk t, s' = { s with heap := h', toks := tk } ∧ Fr h₀ L h' (fun y => if y = "rank" then some (.int r t) else m y) ∧ News h₀ L h' news
theorem rank_no {h₀ : Heap} {L : Addr} {m : PySem.Str → Option Value} {news : List (Addr × Obj)} {r r' : Int} {t : Tok} {s : Shared} {h' : Heap} {tk : Nat} (hm : m "rank" = some (.int r t)) (F : Fr h₀ L h' m) (N : News h₀ L h' news) (e : r = r') : RankEnd h₀ L m news r' s .next { s with heap := h', toks := tk } := by
  refine ⟨rfl, h', tk, t, rfl, ?_, N⟩
  have e2 : (fun y : PySem.Str => if y = "rank" then some (.int r' t) else m y) = m := by
    funext y
    by_cases q : y = "rank"
    · rw [if_pos q, q, hm, e]
    · rw [if_neg q]
  rw [e2]; exact F
theorem rank_yes {h₀ : Heap} {L : Addr} {m : PySem.Str → Option Value} {news : List (Addr × Obj)} {r r' : Int} {t : Tok} {s : Shared} {h' : Heap} {tk : Nat} (F : Fr h₀ L h' (fun y => if y = "rank" then some (.int r t) else m y)) (N : News h₀ L h' news) (e : r = r') : RankEnd h₀ L m news r' s .next { s with heap := h', toks := tk } := by
  subst e
  exact ⟨rfl, h', tk, t, rfl, F, N⟩
theorem if_rank {M : Model} {A : Around} {E : Value → Shared → Prop} {s : Shared} {h₀ : Heap} {L : Addr} {m : PySem.Str → Option Value} {news : List (Addr × Obj)} {a : Sem Flow} {Q : Flow → Shared → Prop} (r : Int) (F : Fr h₀ L s.heap m) (N : News h₀ L s.heap news)
    (h : wpAny M A a (RankEnd h₀ L m news r s) E s)
    (k : ∀ h' tk t, Fr h₀ L h' (fun y => if y = "rank" then some (.int r t) else m y) → News h₀ L h' news → Q .next { s with heap := h', toks := tk }) : wpAny M A a Q E s :=
  wpAny_mono h (fun fl s' x => by obtain ⟨rfl, h', tk, t, rfl, F', N'⟩ := x; exact k h' tk t F' N') fun _ _ e => e
theorem carry_yes {v n r : Int} (c : 10 ^ (figs v + figs n - 1).toNat ≤ v * n) : r + 1 = r + carry v n := by rw [carry, if_pos c]
theorem carry_no {v n r : Int} (c : ¬ 10 ^ (figs v + figs n - 1).toNat ≤ v * n) : r = r + carry v n := by rw [carry, if_neg c]; omega
theorem rank_sum (v f : Int) : (0 : Int) + carry v f + carry v (f ^ Int.toNat 2) + carry v (f ^ Int.toNat 3) + carry v (f ^ Int.toNat 4) = rankV v f := by
  have e2 : rankV v f = carry v f + (carry v (f ^ Int.toNat 2) + (carry v (f ^ Int.toNat 3) + (carry v (f ^ Int.toNat 4) + 0))) := rfl
  rw [e2]; omega
theorem rank_C (w : World) (p : Program) (loose : List PySem.Str) (mean : ExcName → Option Value) (mg mb : PySem.Str → Option Value) (v : Int) (tv : CbTok) (f : Int) (tf : CbTok) (news : List (Addr × Obj)) :
  Clm 2 60 PySem.Challenge.rw_yf0014_01.prog w (hd.heap_39 w.params) p loose mean mg mb 124 news ((1 ≤ v ∧ v < 10 ^ 14) ∧ (1 ≤ f ∧ f ≤ 12)) [.int v tv, .int f tf] (fun t => .int (rankV v f) t) := by
  k_with_none
  k_with "call ref" => (k_here; k_dflt (refine' Mine.clm_useF (Mine.figures_C _ _ _ _ _ _ _ _ _) Mine.figs_bnd ?k1 ?k2 ?k3 ?k4 ?k5 ?kK ?kp ?kd ?ku ?_; (case k1 => k_asm); (case k2 => k_asm); (case k3 => k_asm); (case k4 => k_asm); (case k5 => k_asm); (case kK => first | exact rfl | assumption); (case kp => first | trivial | assumption | omega | l_fact| exact Mine.rank_in (by assumption) (by simp)); (case kd => ktr_room); (case ku => ktr_units)); intro _ _ _ _ _ _; (try dsimp only); (try k_fold))
  k_with "pyIter ref" => (k_here; (with_reducible show wpAny _ _ (pyIter (Value.ref _)) (fun it s₂ => LoopAtV _ _ _ _ _ _ _ _ _ it s₂) _ _); k_dflt k_listUnr)
  k_fill
  intro dp un gd cn cs a ccd cl outer A₀ base h₀ L m s Q E B F X N T hk
  intro hp hd hu hret
  obtain ⟨hp0, hp1⟩ := hp
  refine wpAny_call ?_
  k_dflt (refine' Mine.code_defR ?k1 ?k2 ?k3 ?k4 ?k5 ?kA ?kF ?kK ?k6 ?k7 ?k8 ?k9 ?kB ?_ ?c2 ?c3 ?c4 ?c5; (case kA => exact rfl); (case kF => exact rfl); (case kK => assumption); (case k1 => k_asm); (case k2 => k_asm); (case k3 => k_asm); (case k4 => k_asm); (case k5 => k_asm); (case k6 => k_is); (case k7 => k_is); (case k8 => ktr_room); (case k9 => exact BindsTo.of_eq rfl); (case c5 => decide); (case kB => exact locs rfl); (case c2 => exact rfl); (case c3 => exact rfl); (case c4 => exact rfl); k_whole; intro g' L' h' hL9 Ng FG' F' N' B' X' T'; (try dsimp only); (try k_lift B'); (try k_fold))
  repeat' ((fail_if_success (with_reducible show wpAny _ _ (exec (Stmt.If _ _ _ _) _) _ _ _)); (first | (k_unfold; (try dsimp only)) | (k_end; wrow_close) | walk1 | (dsimp only; walk1) | (leave1; try dsimp only) | fail "no step"))
  refine Mine.if_rank (0 + carry v f) (by k_asm) (by k_asm) ?_ ?_
  · k_steps
    · exact Mine.rank_yes (by k_asm) (by k_asm) (Mine.carry_yes (by assumption))
    · exact Mine.rank_no (by rfl) (by k_asm) (by k_asm) (Mine.carry_no (by assumption))
  intro h9 tk9 t9 F' N'
  repeat' ((fail_if_success (with_reducible show wpAny _ _ (exec (Stmt.If _ _ _ _) _) _ _ _)); (first | (k_unfold; (try dsimp only)) | (k_end; wrow_close) | walk1 | (dsimp only; walk1) | (leave1; try dsimp only) | fail "no step"))
  refine Mine.if_rank (0 + carry v f + carry v (f ^ Int.toNat 2)) (by k_asm) (by k_asm) ?_ ?_
  · k_steps
    · exact Mine.rank_yes (by k_asm) (by k_asm) (Mine.carry_yes (by assumption))
    · exact Mine.rank_no (by rfl) (by k_asm) (by k_asm) (Mine.carry_no (by assumption))
  intro h9 tk9 t9 F' N'
  repeat' ((fail_if_success (with_reducible show wpAny _ _ (exec (Stmt.If _ _ _ _) _) _ _ _)); (first | (k_unfold; (try dsimp only)) | (k_end; wrow_close) | walk1 | (dsimp only; walk1) | (leave1; try dsimp only) | fail "no step"))
  refine Mine.if_rank (0 + carry v f + carry v (f ^ Int.toNat 2) + carry v (f ^ Int.toNat 3)) (by k_asm) (by k_asm) ?_ ?_
  · k_steps
    · exact Mine.rank_yes (by k_asm) (by k_asm) (Mine.carry_yes (by assumption))
    · exact Mine.rank_no (by rfl) (by k_asm) (by k_asm) (Mine.carry_no (by assumption))
  intro h9 tk9 t9 F' N'
  repeat' ((fail_if_success (with_reducible show wpAny _ _ (exec (Stmt.If _ _ _ _) _) _ _ _)); (first | (k_unfold; (try dsimp only)) | (k_end; wrow_close) | walk1 | (dsimp only; walk1) | (leave1; try dsimp only) | fail "no step"))
  refine Mine.if_rank (0 + carry v f + carry v (f ^ Int.toNat 2) + carry v (f ^ Int.toNat 3) + carry v (f ^ Int.toNat 4)) (by k_asm) (by k_asm) ?_ ?_
  · k_steps
    · exact Mine.rank_yes (by k_asm) (by k_asm) (Mine.carry_yes (by assumption))
    · exact Mine.rank_no (by rfl) (by k_asm) (by k_asm) (Mine.carry_no (by assumption))
  intro h9 tk9 t9 F' N'
  k_steps
  refine cb_retI hret ?_ (by k_asm) (Mine.news_keeps Ng (by k_asm))
  exact Mine.rank_sum v f
end Mine
end
section
open PySem PySem.W PyProof.Rows
set_option Elab.async false
set_option linter.all false
namespace Mine
set_option maxRecDepth 100000
set_option maxHeartbeats 8000000
theorem look_end {v : Value} {c : Nat} (h : Int) (hh : 0 ≤ h ∧ h ≤ 4) (hv : PyProof.V.Flat v ((Spec.lookup (.str ⟨#[c]⟩) (tabs h)).getD (.str ⟨#[c]⟩))) : ∃ t, v = .str ⟨(escC h c).toArray⟩ t := by
  rw [tab_look h hh] at hv
  have h9 := hv (default : Heap)
  cases h9
  exact ⟨_, rfl⟩
noncomputable def TabEnd (prog : Program) (w : World) (g : Heap) (L : Addr) (m : PySem.Str → Option Value) (C : Addr) (D : List (PyData × PyData)) (s : Shared) (fl : Flow) (s' : Shared) : Prop :=
  fl = .next ∧ ∃ h' tk d o oc kvs, s' = { s with heap := h', toks := tk } ∧ Fr g L h' m ∧ News g L h' [(d, o), (C, oc)] ∧ oc.data = Data.cell (some (.ref d)) ∧ (d == sysModules) = false ∧ Obj.IsDictOf (PySem.strKind prog w) o kvs ∧ PyProof.V.FlatPairs PyData.str kvs D ∧ @LT.lt Nat _ C d
section
variable {prog : Program} {w : World} {A : Around} {E : Value → Shared → Prop} {s : Shared} {g : Heap} {L C : Addr} {m : PySem.Str → Option Value} {D D' : List (PyData × PyData)} {a : Sem Flow} {Q : Flow → Shared → Prop} {h' : Heap} {tk : Nat} {d : Addr} {o oc : Obj} {kvs : List (PySem.Str × Value)}
theorem if_tab (D : List (PyData × PyData)) (F : Fr g L s.heap m) (N : News g L s.heap [(d, o), (C, oc)])
    (h : wpAny (model prog w) A a (TabEnd prog w g L m C D s) E s)
    (k : ∀ h' tk d o oc kvs, Fr g L h' m → News g L h' [(d, o), (C, oc)] → oc.data = Data.cell (some (.ref d)) → (d == sysModules) = false → Obj.IsDictOf (PySem.strKind prog w) o kvs → PyProof.V.FlatPairs PyData.str kvs D → @LT.lt Nat _ C d → Q .next { s with heap := h', toks := tk }) :
    wpAny (model prog w) A a Q E s :=
  wpAny_mono h (fun fl s' x => by obtain ⟨rfl, h', tk, d, o, oc, kvs, rfl, x1, x2, x3, x4, x5, x6, x7⟩ := x; exact k h' tk d o oc kvs x1 x2 x3 x4 x5 x6 x7) fun _ _ e => e
theorem tab_old (F : Fr g L h' m) (N : News g L h' [(d, o), (C, oc)]) (dc : oc.data = Data.cell (some (.ref d))) (lo : (d == sysModules) = false) (hd : Obj.IsDictOf (PySem.strKind prog w) o kvs) (hf : PyProof.V.FlatPairs PyData.str kvs D') (l : @LT.lt Nat _ C d) (e : D' = D) : TabEnd prog w g L m C D s .next { s with heap := h', toks := tk } := by
  subst e
  exact ⟨rfl, h', tk, d, o, oc, kvs, rfl, F, N, dc, lo, hd, hf, l⟩
theorem tab_new {y : Addr × Obj} (F : Fr g L h' m) (N : News g L h' [(d, o), y, (C, oc)]) (dc : oc.data = Data.cell (some (.ref d))) (lo : (d == sysModules) = false) (hd : Obj.IsDictOf (PySem.strKind prog w) o kvs) (hf : PyProof.V.FlatPairs PyData.str kvs D') (l : @LT.lt Nat _ C d) (e : D' = D) : TabEnd prog w g L m C D s .next { s with heap := h', toks := tk } := by
  subst e
  refine ⟨rfl, h', tk, d, o, oc, kvs, rfl, F, fun p hp => ?_, dc, lo, hd, hf, l⟩
  rcases List.mem_cons.mp hp with rfl | hp
  · exact N _ (.head _)
  · exact N _ (.tail _ (.tail _ hp))
end
theorem tab_all {v : Int} (h : 0 ≤ v ∧ v ≤ 4) : (if v = 4 then tabs 4 else if v = 3 then tabs 3 else if v = 2 then tabs 2 else if v = 1 then tabs 1 else tabs 0) = tabs v := by
  have : v = 0 ∨ v = 1 ∨ v = 2 ∨ v = 3 ∨ v = 4 := by omega
  rcases this with rfl | rfl | rfl | rfl | rfl <;> rfl
theorem spelled_C (w : World) (p : Program) (loose : List PySem.Str) (mean : ExcName → Option Value) (mg mb : PySem.Str → Option Value) (v : Int) (tv : CbTok) (v1 : PySem.Str) (tv1 : CbTok) (news : List (Addr × Obj)) :
  Clm 2 60 PySem.Challenge.rw_yf0014_01.prog w (hd.heap_39 w.params) p loose mean mg mb 96 news ((0 ≤ v ∧ v ≤ 4) ∧ v1.length ≤ 4) [.int v tv, .str v1 tv1] (fun t => .str (esc v v1) t) := by
  k_with_none
  k_with "ite" => first | rw [if_pos (by decide)] | rw [if_neg (by decide)]
  k_with "eval ListComp" => (k_here; k_dflt (refine Mine.ListComp_S (F₀ := by k_asm) (by with_unfolding_all rfl) (by decide) (by rfl) (by decide) (by rfl) ?_))
  k_fill
  intro dp un gd cn cs a ccd cl outer A₀ base h₀ L m s Q E B F X N T hk
  intro hp hd hu hret
  obtain ⟨hv, hp⟩ := hp
  refine wpAny_call ?_
  k_dflt (refine' Mine.code_defCR ?k1 ?k2 ?k3 ?k4 ?k5 ?kA ?kF ?kK ?k6 ?k7 ?k8 ?k9 ?kB ?kD ?_ ?c2 ?c3 ?c4; (case kA => exact rfl); (case kF => exact rfl); (case kK => assumption); (case k1 => k_asm); (case k2 => k_asm); (case k3 => k_asm); (case k4 => k_asm); (case k5 => k_asm); (case k6 => k_is); (case k7 => k_is); (case k8 => ktr_room); (case k9 => exact BindsTo.of_eq rfl); (case kB => exact rfl); (case kD => decide +kernel); (case c2 => exact rfl); (case c3 => exact rfl); (case c4 => exact rfl); k_whole; intro g' L' h' tk' cells' Ng FG' F' N' Y' B' X' T'; k_cells Y'; (try simp only [List.cons_append, List.nil_append] at N'); (try dsimp only); (try k_lift B'); (try k_fold))
  repeat' ((fail_if_success (with_reducible show wpAny _ _ (exec (Stmt.If _ _ _ _) _) _ _ _)); (first | (k_unfold; (try dsimp only)) | (k_end; wrow_close) | walk1 | (dsimp only; walk1) | (leave1; try dsimp only) | fail "no step"))
  refine Mine.if_tab (if v = 1 then tabs 1 else tabs 0) (by k_asm) (by k_asm) ?_ ?_
  · k_steps
    · exact Mine.tab_new (by k_asm) (by k_asm) (by assumption) (by assumption) (by assumption) (by assumption) (by first | assumption | omega | (exact Nat.lt_trans (by assumption) (by assumption))) (if_pos (by assumption)).symm
    · exact Mine.tab_old (by k_asm) (by k_asm) (by assumption) (by assumption) (by assumption) (by assumption) (by first | assumption | omega) (if_neg (by assumption)).symm
  intro h9 tk9 d9 o9 oc9 kvs9 F' N' d' lo' hd' hf' l1
  repeat' ((fail_if_success (with_reducible show wpAny _ _ (exec (Stmt.If _ _ _ _) _) _ _ _)); (first | (k_unfold; (try dsimp only)) | (k_end; wrow_close) | walk1 | (dsimp only; walk1) | (leave1; try dsimp only) | fail "no step"))
  refine Mine.if_tab (if v = 2 then tabs 2 else if v = 1 then tabs 1 else tabs 0) (by k_asm) (by k_asm) ?_ ?_
  · k_steps
    · exact Mine.tab_new (by k_asm) (by k_asm) (by assumption) (by assumption) (by assumption) (by assumption) (by first | assumption | omega | (exact Nat.lt_trans (by assumption) (by assumption))) (if_pos (by assumption)).symm
    · exact Mine.tab_old (by k_asm) (by k_asm) (by assumption) (by assumption) (by assumption) (by assumption) (by first | assumption | omega) (if_neg (by assumption)).symm
  intro h9 tk9 d9 o9 oc9 kvs9 F' N' d' lo' hd' hf' l1
  repeat' ((fail_if_success (with_reducible show wpAny _ _ (exec (Stmt.If _ _ _ _) _) _ _ _)); (first | (k_unfold; (try dsimp only)) | (k_end; wrow_close) | walk1 | (dsimp only; walk1) | (leave1; try dsimp only) | fail "no step"))
  refine Mine.if_tab (if v = 3 then tabs 3 else if v = 2 then tabs 2 else if v = 1 then tabs 1 else tabs 0) (by k_asm) (by k_asm) ?_ ?_
  · k_steps
    · exact Mine.tab_new (by k_asm) (by k_asm) (by assumption) (by assumption) (by assumption) (by assumption) (by first | assumption | omega | (exact Nat.lt_trans (by assumption) (by assumption))) (if_pos (by assumption)).symm
    · exact Mine.tab_old (by k_asm) (by k_asm) (by assumption) (by assumption) (by assumption) (by assumption) (by first | assumption | omega) (if_neg (by assumption)).symm
  intro h9 tk9 d9 o9 oc9 kvs9 F' N' d' lo' hd' hf' l1
  repeat' ((fail_if_success (with_reducible show wpAny _ _ (exec (Stmt.If _ _ _ _) _) _ _ _)); (first | (k_unfold; (try dsimp only)) | (k_end; wrow_close) | walk1 | (dsimp only; walk1) | (leave1; try dsimp only) | fail "no step"))
  refine Mine.if_tab (if v = 4 then tabs 4 else if v = 3 then tabs 3 else if v = 2 then tabs 2 else if v = 1 then tabs 1 else tabs 0) (by k_asm) (by k_asm) ?_ ?_
  · k_steps
    · exact Mine.tab_new (by k_asm) (by k_asm) (by assumption) (by assumption) (by assumption) (by assumption) (by first | assumption | omega | (exact Nat.lt_trans (by assumption) (by assumption))) (if_pos (by assumption)).symm
    · exact Mine.tab_old (by k_asm) (by k_asm) (by assumption) (by assumption) (by assumption) (by assumption) (by first | assumption | omega) (if_neg (by assumption)).symm
  intro h9 tk9 d9 o9 oc9 kvs9 F' N' d' lo' hd' hf' l1
  rw [Mine.tab_all hv] at hf'
  k_steps
  refine SrcS.of (by rfl) (by k_asm) (by k_asm) (by rw [PySem.sizeLine_eq]; exact Nat.le_trans hp (by decide)) ?_
  intro g9
  refine rest_map (ks := v1.cps.toList) (fun c v => ∃ u, v = .str ⟨#[c]⟩ u) (fun c y => ∃ t, y = .str ⟨(escC v c).toArray⟩ t) (by simp) (fun i v _ hv => by obtain ⟨c, u, hc, e⟩ := hv; exact ⟨c, by simpa using hc, u, e⟩) ?turn ?fin
  case turn =>
    intro c v I' oI' C' oC' D' m2' ys' h9 tk9 E9 hk9 henc hC' hx' F' N' off' ne'
    obtain ⟨u9, rfl⟩ := henc
    simp only [LCg.Off3, and_true] at off'
    k_steps
    (rename PyProof.V.Flat _ _ => hv9)
    exact ⟨rfl, look_end v hv hv9⟩
  case fin =>
    intro ys9 hys9 hlen9
    k_steps
    refine join_listW (ys := v1.cps.toList.map fun c => (⟨(escC v c).toArray⟩ : PySem.Str)) (by is_list) (by simpa using hys9.strs (g := fun c => (⟨(escC v c).toArray⟩ : PySem.Str)) (fun _ _ e => e)) (by decide +kernel) (join_small (escC_len v) hp) ?_
    intro t9 k9
    k_steps
    all_goals (refine cb_retS hret ?_ (by k_asm) (Mine.news_keeps Ng (by k_asm)); exact join_flat (escC v) v1)
end Mine
end
section
open PySem PySem.W PyProof.Rows
set_option Elab.async false
set_option linter.all false
namespace Mine
set_option maxRecDepth 100000
set_option maxHeartbeats 8000000
theorem map_cp {m : PySem.Str → Option Value} {u v : Value} (h1 : m "columns" = some u) (h2 : m "pages" = some v) : m = fun (y : PySem.Str) => if y = "columns" then some u else if y = "pages" then some v else m y := by
  funext y
  by_cases e : y = "columns"
  · rw [if_pos e, e, h1]
  · rw [if_neg e]
    by_cases e2 : y = "pages"
    · rw [if_pos e2, e2, h2]
    · rw [if_neg e2]
theorem map_lines {m : PySem.Str → Option Value} {a b c d : Value} (h0 : m "lines" = some a) (h3 : m "k" = some b) (h1 : m "columns" = some c) (h2 : m "pages" = some d) : m = fun (y : PySem.Str) => if y = "lines" then some a else if y = "k" then some b else if y = "columns" then some c else if y = "pages" then some d else m y := by
  funext y
  by_cases e : y = "lines"
  · rw [if_pos e, e, h0]
  · rw [if_neg e]
    by_cases e2 : y = "k"
    · rw [if_pos e2, e2, h3]
    · rw [if_neg e2]
      by_cases e3 : y = "columns"
      · rw [if_pos e3, e3, h1]
      · rw [if_neg e3]
        by_cases e4 : y = "pages"
        · rw [if_pos e4, e4, h2]
        · rw [if_neg e4]
noncomputable def KvIs (ns : List Int) (i : Nat) (kvs : List (Int × Value)) (j : Nat) : Prop := kvs.length = j ∧ ∀ a, a < j → ∃ t, kvs[a]? = some ((a : Int), .int (ns.getD (i - a) 0) t)
theorem KvIs.snoc {ns : List Int} {i j : Nat} {kvs : List (Int × Value)} {x : Int} {t : Tok} (h : KvIs ns i kvs j) (e : x = ns.getD (i - j) 0) : KvIs ns i (kvs ++ [(0 + (j : Int), .int x t)]) (j + 1) := by
  subst e
  refine ⟨by rw [List.length_append, h.1]; rfl, fun a ha => ?_⟩
  by_cases hj : a < j
  · obtain ⟨t', e⟩ := h.2 a hj
    exact ⟨t', by rw [List.getElem?_append_left (by rw [h.1]; exact hj)]; exact e⟩
  · have : a = j := by omega
    subst this
    exact ⟨t, by rw [List.getElem?_append_right (by rw [h.1]; exact Nat.le_refl _), h.1, Nat.sub_self, Int.zero_add]; rfl⟩
theorem KvIs.keys {ns : List Int} {i j : Nat} {kvs : List (Int × Value)} (h : KvIs ns i kvs j) {x : Int} (hx : (j : Int) ≤ x) : ∀ q ∈ kvs, q.1 ≠ x := by
  intro q hq e
  obtain ⟨a, ha⟩ := List.getElem?_of_mem hq
  have hlt : a < j := by
    have := (List.getElem?_eq_some_iff.mp ha).1
    rw [h.1] at this; exact this
  obtain ⟨t, e2⟩ := h.2 a hlt
  rw [ha] at e2
  cases e2
  simp only at e
  omega
structure PagesOk (ns : List Int) : Prop where
  len : ns.length = 10
  lo : ∀ a, a < 10 → 1000 ≤ ns.getD a 0
  hi : ∀ a, a < 10 → ns.getD a 0 < 10 ^ 14
  mono : ∀ a b, a ≤ b → b < 10 → ns.getD a 0 ≤ ns.getD b 0
theorem KvIs.width {ns : List Int} {i : Nat} {kvs : List (Int × Value)} {x : Int} (P : PagesOk ns) (hi : i < 10) (h : KvIs ns i kvs (i + 1)) : WidthOk (kvs ++ [(x, .none)]) (i + 1) (ns.getD i 0) := by
  have front : ∀ a, a < i + 1 → ∃ t, (kvs ++ [(x, Value.none)])[a]? = some ((a : Int), .int (ns.getD (i - a) 0) t) := fun a ha => by
    obtain ⟨t, e⟩ := h.2 a ha
    exact ⟨t, by rw [List.getElem?_append_left (by rw [h.1]; exact ha)]; exact e⟩
  have last : (kvs ++ [(x, Value.none)])[i + 1]? = some (x, .none) := by
    rw [List.getElem?_append_right (by rw [h.1]; exact Nat.le_refl _), h.1, Nat.sub_self]; rfl
  have len : (kvs ++ [(x, Value.none)]).length = i + 1 + 1 := by rw [List.length_append, h.1]; rfl
  refine ⟨len, by omega, fun a k v e => ?_, fun a k ha e => ?_, fun k y t e => ?_, ?_, fun a k y t ha e => ?_, P.lo i hi, P.hi i hi⟩
  · by_cases ha : a < i + 1
    · obtain ⟨t, e2⟩ := front a ha
      rw [e] at e2; cases e2
      have := P.lo (i - a) (by omega)
      exact .inr ⟨_, t, rfl, by omega⟩
    · have hlt := (List.getElem?_eq_some_iff.mp e).1
      have : a = i + 1 := by omega
      subst this
      rw [last] at e; cases e
      exact .inl rfl
  · obtain ⟨t, e2⟩ := front a ha
    rw [e] at e2; cases e2
  · rw [last] at e; cases e
  · obtain ⟨t, e2⟩ := front 0 (by omega)
    exact ⟨_, t, e2⟩
  · obtain ⟨t', e2⟩ := front a ha
    rw [e] at e2; cases e2
    exact P.mono (i - a) i (by omega) hi
theorem ints_snoc {x : Int} {t : Tok} : ∀ {xs : List Value} {ys : List Int}, IntsAre xs ys → IntsAre (xs ++ [.int x t]) (ys ++ [x])
  | _, _, .nil => .cons x t .nil
  | _, _, .cons a u r => .cons a u (ints_snoc r)
theorem stored_new {kvs : List (Int × Value)} {x : Int} {v : Value} (h : ∀ q ∈ kvs, q.1 ≠ x) : stored kvs x v = kvs ++ [(x, v)] := by
  unfold stored
  rw [if_neg]
  intro e
  obtain ⟨q, hq, e2⟩ := List.any_eq_true.mp e
  exact h q hq (by simpa using e2)
theorem set_mine {prog : Program} {w : World} {A : Around} {E : Value → Shared → Prop} {s : Shared} {h₀ : Heap} {L d : Addr} {m : PySem.Str → Option Value} {rest : List (Addr × Obj)} {o : Obj} {kvs : List (Int × Value)} {x : Int} {t : Tok} {v : Value} {Q : Unit → Shared → Prop}
    (F : Fr h₀ L s.heap m) (N : News h₀ L s.heap ((d, o) :: rest)) (hap : ∀ p ∈ rest, p.1 ≠ d) (hd : o.IsDictOf (intKind prog w) kvs) (hnew : ∀ q ∈ kvs, q.1 ≠ x) (hsz : kvs.length ≤ 100)
    (h : ∀ h' o', Fr h₀ L h' m → News h₀ L h' ((d, o') :: rest) → o'.IsDictOf (intKind prog w) (kvs ++ [(x, v)]) → Q () { s with heap := h', toks := s.toks + 1 }) :
    wpAny (model prog w) A (setItem (.ref d) (.int x t) v) Q E s := by
  refine wpAny_setItem_pairs (knd := intKind prog w) (k := x) (kvs := kvs) (hsz := by rw [sizeLine_eq]; omega) (intKind_is prog w x t) (Heap.dictOf_iff.mpr ⟨o, (N _ (.head _)).1, hd⟩) fun h' hm hs => ?_
  obtain ⟨o', ho', hd'⟩ := Heap.dictOf_iff.mp hm
  rw [stored_new hnew] at hd'
  exact h h' o' (F.change hs (N _ (.head _)).2.1 (N.fresh (.head _))) (N.setHead hap hs ho') hd'
abbrev Jlines (d lc lp : Addr) (w : World) (ns : List Int) (i : Nat) (t : Tok) (rest : List (Addr × Obj)) : Nat → (PySem.Str → Option Value) → List (Addr × Obj) → Prop := fun j m nx => m "lines" = some (.ref d) ∧ m "k" = some (.int (0 + (i : Int)) t) ∧ m "columns" = some (.ref lc) ∧ m "pages" = some (.ref lp) ∧ ∃ o kvs, nx = (d, o) :: rest ∧ Obj.IsDictOf (intKind Challenge.rw_yf0014_01.prog w) o kvs ∧ KvIs ns i kvs j
abbrev Jcols (lc lp : Addr) (vs : List Value) (n0 : Nat) (ns : List Int) : Nat → (PySem.Str → Option Value) → List (Addr × Obj) → Prop := fun i m nx => m "columns" = some (.ref lc) ∧ m "pages" = some (.ref lp) ∧ ∃ xs n, nx = [(lc, listOf (List.toArray xs) n)] ∧ IntsAre xs ((ns.take i).map figs)
theorem cols_snoc {xs : List Value} {ns : List Int} {i : Nat} {t : Tok} (h : IntsAre xs ((ns.take i).map figs)) (hi : i < ns.length) : IntsAre (xs ++ [.int (figs (ns.getD i 0)) t]) ((ns.take (i + 1)).map figs) := by
  have e : (ns.take (i + 1)).map figs = (ns.take i).map figs ++ [figs (ns.getD i 0)] := by
    rw [List.take_add_one, List.getElem?_eq_getElem hi, List.map_append]
    simp [hi]
  rw [e]
  exact ints_snoc h
theorem columns_C (w : World) (p : Program) (loose : List PySem.Str) (mean : ExcName → Option Value) (mg mb : PySem.Str → Option Value) (lp : Addr) (vs : List Value) (ns : List Int) (n0 : Nat) (news : List (Addr × Obj)) :
  ClmL 3 100 PySem.Challenge.rw_yf0014_01.prog w (hd.heap_39 w.params) p loose mean mg mb 117 news (fun _ => (lp, listOf vs.toArray n0) ∈ news ∧ IntsAre vs ns ∧ PagesOk ns) [.ref lp] (fun xs => IntsAre xs (ns.map figs)) := by
  k_with_none
  k_with "newList" => (k_here; k_dflt (refine' Mine.newList_mine ?k1 ?k2 ?_ ?z; (case k1 => k_asm); (case k2 => k_asm); (case z => exact Nat.le_of_ble_eq_true rfl)); intro _ _ _ _ _ l1Z; (try k_lt l1Z); (try k_sweep))
  k_with "ite" => first | rw [if_pos (by decide)] | rw [if_neg (by decide)]
  k_fill
  intro dp un gd cn cs a ccd cl outer A₀ base h₀ L m s Q E B F X N T hk
  intro hp hd hu hret
  obtain ⟨hp0, hi, hP⟩ := hp
  have hl := hP.len
  refine wpAny_call ?_
  k_dflt (refine' Mine.code_defR ?k1 ?k2 ?k3 ?k4 ?k5 ?kA ?kF ?kK ?k6 ?k7 ?k8 ?k9 ?kB ?_ ?c2 ?c3 ?c4 ?c5; (case kA => exact rfl); (case kF => exact rfl); (case kK => assumption); (case k1 => k_asm); (case k2 => k_asm); (case k3 => k_asm); (case k4 => k_asm); (case k5 => k_asm); (case k6 => k_is); (case k7 => k_is); (case k8 => ktr_room); (case k9 => exact BindsTo.of_eq rfl); (case c5 => decide); (case kB => exact locs rfl); (case c2 => exact rfl); (case c3 => exact rfl); (case c4 => exact rfl); k_whole; intro g' L' h' hL9 Ng FG' F' N' B' X' T'; (try dsimp only); (try k_lift B'); (try k_fold))
  have hB' : g'.IsList lp vs.toArray := ⟨_, (Ng _ hp0).1, rfl, n0, rfl⟩
  repeat' ((fail_if_success (with_reducible show wpAny _ _ (pyIter _) _ _ _)); (first | (k_unfold; (try dsimp only)) | (k_end; wrow_close) | walk1 | (dsimp only; walk1) | (leave1; try dsimp only) | fail "no step"))
  (rename IsRange _ _ _ _ _ _ _ _ => hR'); (rename Fr _ _ _ _ => F'); (rename News _ _ _ _ => N')
  refine iter_rangeN 10 (Jcols _ lp vs n0 ns) (by rfl) hR' (by rw [hl]; decide) (by rw [hl]; rfl) F' N' ⟨rfl, rfl, [], _, rfl, .nil⟩ ?turn ?done
  case done =>
    intro m1 nx h1 tk1 hJ F' N'
    obtain ⟨hc1, hp1, xs, n1, rfl, hx⟩ := hJ
    rw [map_cp hc1 hp1] at F'
    k_steps
    (rename News h₀ _ _ [_] => kN9)
    refine hret _ xs n1 _ _ ?_ (by k_asm) (fun q hq => ?_) ?_
    · rw [← hl, List.take_length] at hx; exact hx
    · rcases List.mem_cons.mp hq with rfl | hq
      · exact kN9 _ (.head _)
      · exact Mine.news_keeps Ng F' q hq
    · intro p hp; exact Nat.lt_trans (hL9 p hp) (by assumption)
  case turn =>
    intro i t1 m1 nx h1 tk1 own hi10 hoff hJ F' N'
    obtain ⟨hc1, hp1, xs, n1, rfl, hx⟩ := hJ
    rw [map_cp hc1 hp1] at F'
    repeat' ((fail_if_success (with_reducible show wpAny _ _ (pyIter _) _ _ _)); (first | (k_unfold; (try dsimp only)) | (k_end; wrow_close) | walk1 | (dsimp only; walk1) | (leave1; try dsimp only) | fail "no step"))
    (rename IsRange _ _ _ _ _ _ _ _ => hR'); (rename Fr _ _ _ _ => F'); (rename News _ _ _ _ => N')
    (rename (_ == sysModules) = false => hlo9); (rename Obj.IsDictOf (intKind _ _) _ _ => hD9); (rename ∀ p ∈ [_] ++ own, _ < _ => hlt9)
    refine iter_rangeN (i + 1) (Jlines _ _ lp w ns i t1 _) (by rfl) hR' ?hsm ?hrs F' N' ⟨rfl, rfl, rfl, rfl, _, [], rfl, hD9, rfl, fun a ha => absurd ha (Nat.not_lt_zero a)⟩ ?turn2 ?done2
    case hsm => exact small_one (by omega) (by omega) (by omega) (by omega)
    case hrs => exact (rangeSize_nat _ _).trans (by congr 1; omega)
    case turn2 =>
      intro j tj m2 nx2 h2 tk2 own2 hj10 hoff2 hJ2 F' N'
      obtain ⟨ha2, hb2, hc2, hd2, o2, kvs, rfl, hD2, hK2⟩ := hJ2
      rw [map_lines ha2 hb2 hc2 hd2] at F'
      repeat' ((fail_if_success (with_reducible show wpAny _ _ (setItem _ _ _) _ _ _)); (first | (k_unfold; (try dsimp only)) | (k_end; wrow_close) | walk1 | (dsimp only; walk1) | (leave1; try dsimp only) | fail "no step"))
      refine set_mine (by k_asm) (by k_asm) (fun p hp => ?_) hD2 (hK2.keys (by omega)) (by rw [hK2.1]; omega) ?_
      · rcases List.mem_append.mp hp with hp | hp
        · exact Nat.ne_of_lt (hlt9 p hp)
        · exact hoff2 p hp _ (.head _)
      intro h5 o5 F' N' hD5
      k_steps
      exact InvEndN.intro (by k_asm) N' ⟨rfl, rfl, rfl, rfl, _, _, rfl, hD5, hK2.snoc (by congr 1; omega)⟩ rfl (fun p hp => by
        rcases List.mem_cons.mp hp with rfl | hp
        · exact .head _
        · exact .tail _ (List.mem_append_left _ hp)) (fun p hp => .tail _ (List.mem_append_right _ hp))
    case done2 =>
      intro m2 nx2 h2 tk2 hJ2 F' N'
      obtain ⟨ha2, hb2, hc2, hd2, o2, kvs, rfl, hD2, hK2⟩ := hJ2
      rw [map_lines ha2 hb2 hc2 hd2] at F'
      repeat' ((fail_if_success (with_reducible show wpAny _ _ (setItem _ _ _) _ _ _)); (first | (k_unfold; (try dsimp only)) | (k_end; wrow_close) | walk1 | (dsimp only; walk1) | (leave1; try dsimp only) | fail "no step"))
      refine set_mine (by k_asm) (by k_asm) (fun p hp => Nat.ne_of_lt (hlt9 p hp)) hD2 (hK2.keys (by omega)) (by rw [hK2.1]; omega) ?_
      intro h5 o5 F' N' hD5
      have hW5 := hK2.width (x := 0 + (i : Int) + 1) hP hi10
      repeat' ((fail_if_success (with_reducible show wpAny _ _ (call (Value.ref _) _) _ _ _)); (first | (k_unfold; (try dsimp only)) | (k_end; wrow_close) | walk1 | (dsimp only; walk1) | (leave1; try dsimp only) | fail "no step"))
      refine clm_use (width_C w _ _ _ _ _ _ o5 _ (i + 1) (ns.getD i 0) _) (by k_asm) (by k_asm) (by k_asm) N' (by k_asm) (by exact rfl) ⟨.head _, hD5, hlo9, hW5⟩ (by ktr_room) (by ktr_units) ?_
      intro t9 h9 tk9 F9 N9
      k_steps
      (rename IntsAre xs _ => hx)
      refine append_K (by k_asm) N9 (Upd.tail (Ne.symm (Nat.ne_of_lt (hlt9 _ (.head _)))) (Upd.head (fun p hp => ?_))) ?_ (hsz := by rw [sizeLine_eq, List.size_toArray, hx.length]; simp; omega)
      · exact hoff p hp _ (.head _)
      intro h6 F' N'
      rw [List.push_toArray] at N'
      k_steps
      exact InvEndN.intro (by k_asm) N' ⟨rfl, rfl, _, _, rfl, cols_snoc hx (by omega)⟩ rfl (fun p hp => by
        rw [List.mem_singleton.mp hp]; exact .tail _ (.head _)) (fun p hp => .tail _ (.tail _ hp))
end Mine
end
section
open PySem PySem.W PyProof.Rows
set_option Elab.async false
set_option linter.all false
namespace Mine
set_option maxRecDepth 100000
set_option maxHeartbeats 8000000
theorem map_c {m : PySem.Str → Option Value} {u : Value} (h1 : m "cells" = some u) : m = fun (y : PySem.Str) => if y = "cells" then some u else m y := by
  funext y
  by_cases e : y = "cells"
  · rw [if_pos e, e, h1]
  · rw [if_neg e]
theorem news_swap {h₀ h : Heap} {L : Addr} {q : Addr × Obj} {own : List (Addr × Obj)} (N : News h₀ L h (own ++ [q])) : News h₀ L h (q :: own) := fun p hp => N p (by
  rcases List.mem_cons.mp hp with rfl | hp
  · exact List.mem_append_right _ (.head _)
  · exact List.mem_append_left _ hp)
theorem news_back {h₀ h : Heap} {L : Addr} {q r : Addr × Obj} {own : List (Addr × Obj)} (N : News h₀ L h (r :: q :: own)) : News h₀ L h (own ++ [q]) := fun p hp => N p (by
  rcases List.mem_append.mp hp with hp | hp
  · exact .tail _ (.tail _ hp)
  · rw [List.mem_singleton.mp hp]; exact .tail _ (.head _))
local macro_rules | `(tactic| k_all) => `(tactic| assumption)
theorem mod_known {prog : Program} {w : World} {A : Around} {E : Value → Shared → Prop} {s : Shared} {a b c : Int} {t u : Tok} {Q : Value → Shared → Prop} (hb : b ≠ 0) (e : a.fmod b = c) (h : ∀ t tk, Q (.int c t) { s with toks := tk }) : wpAny (model prog w) A (binaryOp .Mod (.int a t) (.int b u)) Q E s := by
  subst e
  exact mod_int hb (h _ _)
abbrev Jcells (lc : Addr) : Nat → (PySem.Str → Option Value) → List (Addr × Obj) → Prop := fun _ m nx => m "cells" = some (.ref lc) ∧ ∃ (a b c d : Int) (ta tb tc td : Tok) (n : Nat), nx = [(lc, listOf #[.int a ta, .int b tb, .int c tc, .int d td] n)] ∧ (0 ≤ a ∧ a < 9000) ∧ (0 ≤ b ∧ b < 90) ∧ (0 ≤ c ∧ c < 72) ∧ 0 ≤ d ∧ d < 5
abbrev CellsAre4 (xs : List Value) : Prop := ∃ (a b c d : Int) (ta tb tc td : Tok), xs = [.int a ta, .int b tb, .int c tc, .int d td] ∧ (0 ≤ a ∧ a < 9000) ∧ (0 ≤ b ∧ b < 90) ∧ (0 ≤ c ∧ c < 72) ∧ 0 ≤ d ∧ d < 5
theorem cells_C (w : World) (p : Program) (loose : List PySem.Str) (mean : ExcName → Option Value) (mg mb : PySem.Str → Option Value) (ls : Addr) (vs : List Value) (ns : List Int) (news : List (Addr × Obj)) :
  ClmL 3 100 PySem.Challenge.rw_yf0014_01.prog w (hd.heap_39 w.params) p loose mean mg mb 84 news (fun h => h.IsList ls vs.toArray ∧ IntsAre vs ns ∧ ns.length ≤ 63) [.ref ls] CellsAre4 := by
  k_with_none
  k_with "newList" => (k_here; k_dflt (refine' Mine.newList_mine ?k1 ?k2 ?_ ?z; (case k1 => k_asm); (case k2 => k_asm); (case z => exact Nat.le_of_ble_eq_true rfl)); intro _ _ _ _ _ l1Z; (try k_lt l1Z); (try k_sweep))
  k_with "ite" => first | rw [if_pos (by decide)] | rw [if_neg (by decide)]
  k_with "binaryOp Mod int int" => (k_here; k_dflt (refine' Mine.mod_known ?b ?e ?_; (case b => decide); (case e => assumption)); intro _ _)
  k_fill
  intro dp un gd cn cs a ccd cl outer A₀ base h₀ L m s Q E B F X N T hk
  intro hp hd hu hret
  obtain ⟨hp0, hi, hl⟩ := hp
  refine wpAny_call ?_
  k_dflt (refine' Mine.code_defR ?k1 ?k2 ?k3 ?k4 ?k5 ?kA ?kF ?kK ?k6 ?k7 ?k8 ?k9 ?kB ?_ ?c2 ?c3 ?c4 ?c5; (case kA => exact rfl); (case kF => exact rfl); (case kK => assumption); (case k1 => k_asm); (case k2 => k_asm); (case k3 => k_asm); (case k4 => k_asm); (case k5 => k_asm); (case k6 => k_is); (case k7 => k_is); (case k8 => ktr_room); (case k9 => exact BindsTo.of_eq rfl); (case c5 => decide); (case kB => exact locs rfl); (case c2 => exact rfl); (case c3 => exact rfl); (case c4 => exact rfl); k_whole; intro g' L' h' hL9 Ng FG' F' N' B' X' T'; (try dsimp only); (try k_lift B'); (try k_fold))
  have hB' : g'.IsList ls vs.toArray := hp0.at fun o e => FG'.keep _ _ e
  repeat' ((fail_if_success (with_reducible show wpAny _ _ (call (Value.type "enumerate") _) _ _ _)); (first | (k_unfold; (try dsimp only)) | (k_end; wrow_close) | walk1 | (dsimp only; walk1) | (leave1; try dsimp only) | fail "no step"))
  refine call_enum_mine (by rfl) (by k_asm) (by k_asm) (fun p hp => by rw [List.mem_singleton.mp hp]; exact Nat.ne_of_lt (by assumption)) (by assumption) ?_
  intro h5 e5 F' N' S5
  refine S5.at _ rfl _ _ _ _ (Jcells _) ⟨rfl, _, _, _, _, _, _, _, _, _, rfl, by decide, by decide, by decide, by decide⟩ ?turn ?done
  case done =>
    intro h6 tk6 m6 nx6 F' N' _ hJ
    obtain ⟨hm6, a, b, c, d, ta, tb, tc, td, n6, rfl, h1, h2, h3, h4⟩ := hJ
    rw [map_c hm6] at F'
    k_steps
    (rename News h₀ _ _ [_] => kN9)
    refine hret _ [.int a ta, .int b tb, .int c tc, .int d td] n6 _ _ ⟨a, b, c, d, ta, tb, tc, td, rfl, h1, h2, h3, h4⟩ (by k_asm) (fun q hq => ?_) ?_
    · rcases List.mem_cons.mp hq with rfl | hq
      · exact kN9 _ (.head _)
      · exact Mine.news_keeps Ng F' q hq
    · intro p hp; exact Nat.lt_trans (hL9 p hp) (by assumption)
  case turn =>
    intro i x6 t6 v6 m6 nx6 s6 own hs6 hx6 hv6 hJ _ hoff F' N'
    obtain ⟨t7, rfl⟩ := ItemKind.int_is hv6
    obtain ⟨h7, tk7, rfl⟩ := hs6
    obtain ⟨hm6, a, b, c, d, ta, tb, tc, td, n6, rfl, h1, h2, h3, h4⟩ := hJ
    rw [map_c hm6] at F'
    have hown := fun p hp => hoff p hp _ (List.Mem.head _)
    dsimp only at hown
    have N7 := news_swap N'
    clear N' hoff
    have hr : (i : Int).fmod 4 = 0 ∨ (i : Int).fmod 4 = 1 ∨ (i : Int).fmod 4 = 2 ∨ (i : Int).fmod 4 = 3 := by
      have := Int.fmod_nonneg_of_pos (i : Int) (b := 4) (by decide)
      have := Int.fmod_lt_of_pos (i : Int) (b := 4) (by decide)
      omega
    rcases hr with hr | hr | hr | hr
    all_goals k_steps
    all_goals ((rename News _ _ _ (_ :: _ :: own) => N9); (rename Fr _ _ _ _ => F9))
    all_goals exact LoopStep3.of2 (LoopStep2.intro F9 (news_back N9) rfl ⟨rfl, _, _, _, _, _, _, _, _, _, rfl, by first | assumption | exact ⟨Int.fmod_nonneg_of_pos _ (by decide), Int.fmod_lt_of_pos _ (by decide)⟩, by first | assumption | exact ⟨Int.fmod_nonneg_of_pos _ (by decide), Int.fmod_lt_of_pos _ (by decide)⟩, by first | assumption | exact ⟨Int.fmod_nonneg_of_pos _ (by decide), Int.fmod_lt_of_pos _ (by decide)⟩, by first | assumption | exact ⟨Int.fmod_nonneg_of_pos _ (by decide), Int.fmod_lt_of_pos _ (by decide)⟩⟩)
end Mine
end
section
open PySem PySem.W PyProof.Rows
set_option linter.all false
namespace Mine
noncomputable def nine : List Nat := [38, 60, 62, 34, 9, 13, 10, 59, 35]
/-- the two unlike signs -/
abbrev TwoSigns (low high : PySem.Str) : Prop := ∃ x ∈ nine, ∃ y ∈ nine, x ≠ y ∧ low = ⟨#[x]⟩ ∧ high = ⟨#[y]⟩
abbrev WordOk (W : PySem.Str) : Prop := ∃ x ∈ nine, W = ⟨#[x]⟩ ∨ ∃ y ∈ nine, W = ⟨#[x, y]⟩
theorem sgn : PySem.Str.ofString "&<>\"\t\r\n;#" = ⟨nine.toArray⟩ := by decide +kernel
theorem low_high0 : ∀ c : Fin 72, ∃ x ∈ nine, ∃ y ∈ nine, x ≠ y ∧ Txt.item ⟨nine.toArray⟩ ((c.val : Int).fmod 9) = ⟨#[x]⟩ ∧ Txt.item ⟨nine.toArray⟩ (((c.val : Int).fmod 9 + 1 + (c.val : Int).fdiv 9).fmod 9) = ⟨#[y]⟩ := by decide +kernel
theorem low_high {c : Int} (h0 : 0 ≤ c) (h1 : c < 72) : ∃ low high, TwoSigns low high ∧ Txt.item (PySem.Str.ofString "&<>\"\t\r\n;#") (c.fmod 9) = low ∧ Txt.item (PySem.Str.ofString "&<>\"\t\r\n;#") ((c.fmod 9 + 1 + c.fdiv 9).fmod 9) = high := by
  obtain ⟨n, rfl⟩ := Int.eq_ofNat_of_zero_le h0
  obtain ⟨x, hx, y, hy, ne, e1, e2⟩ := low_high0 ⟨n, by omega⟩
  rw [sgn]
  exact ⟨_, _, ⟨x, hx, y, hy, ne, rfl, rfl⟩, e1, e2⟩
theorem word0 : ∀ c : Fin 90, ∃ x ∈ nine, (Txt.item ⟨nine.toArray⟩ ((c.val : Int).fmod 9) ++ Txt.slice ⟨nine.toArray⟩ (some ((c.val : Int).fdiv 9)) (some ((c.val : Int).fdiv 9 + 1))) = ⟨#[x]⟩ ∨ ∃ y ∈ nine, (Txt.item ⟨nine.toArray⟩ ((c.val : Int).fmod 9) ++ Txt.slice ⟨nine.toArray⟩ (some ((c.val : Int).fdiv 9)) (some ((c.val : Int).fdiv 9 + 1))) = ⟨#[x, y]⟩ := by decide +kernel
theorem word_ok {c : Int} (h0 : 0 ≤ c) (h1 : c < 90) : ∃ W, WordOk W ∧ (Txt.item (PySem.Str.ofString "&<>\"\t\r\n;#") (c.fmod 9) ++ Txt.slice (PySem.Str.ofString "&<>\"\t\r\n;#") (some (c.fdiv 9)) (some (c.fdiv 9 + 1))) = W := by
  obtain ⟨n, rfl⟩ := Int.eq_ofNat_of_zero_le h0
  rw [sgn]
  exact ⟨_, word0 ⟨n, by omega⟩, rfl⟩
theorem nine_len : ∀ h : Fin 5, ∀ x ∈ nine, 1 ≤ (escC (h.val : Int) x).length ∧ (escC (h.val : Int) x).length ≤ 6 := by decide +kernel
theorem nine_lens {d : Int} (hd : 0 ≤ d ∧ d < 5) {x : Nat} (hx : x ∈ nine) : 1 ≤ (escC d x).length ∧ (escC d x).length ≤ 6 := by
  obtain ⟨n, rfl⟩ := Int.eq_ofNat_of_zero_le hd.1
  exact nine_len ⟨n, by omega⟩ x hx
theorem factor_ok {d : Int} (hd : 0 ≤ d ∧ d < 5) {W : PySem.Str} (hW : WordOk W) : 1 ≤ ((esc d W).length : Int) ∧ ((esc d W).length : Int) ≤ 12 := by
  obtain ⟨x, hx, rfl | ⟨y, hy, rfl⟩⟩ := hW
  · have := nine_lens hd hx
    have e : (esc d ⟨#[x]⟩).length = (escC d x).length := by simp [esc, flat, PySem.Str.length]
    rw [e]; omega
  · have h1 := nine_lens hd hx
    have h2 := nine_lens hd hy
    have e : (esc d ⟨#[x, y]⟩).length = (escC d x).length + (escC d y).length := by simp [esc, flat, PySem.Str.length]
    rw [e]; omega
theorem word_len {W : PySem.Str} (hW : WordOk W) : W.length ≤ 4 := by
  obtain ⟨x, hx, rfl | ⟨y, hy, rfl⟩⟩ := hW <;> simp [PySem.Str.length]
/-- the k-th page's lines -/
noncomputable def pg (a : Int) (f : Int) (k : Nat) : Int := (1000 + a) * f ^ k
end Mine
end
section
open PySem PySem.W PyProof.Rows
set_option Elab.async false
set_option linter.all false
namespace Mine
theorem ce_same {h₀ : Heap} {L : Addr} {m : PySem.Str → Option Value} {s₁ : Shared} {I : Addr} {oI : Obj} {C : Addr} {oC : Obj} {D : Addr} {oD : Obj} {S : List (Addr × Obj) → Prop} {rest : Value → List (Addr × Obj) → Prop} {y : Value} {h' : Heap} {tk : Nat} {news : List (Addr × Obj)}
    (F : Fr h₀ L h' m) (off : LCg.Off3 I C D news) (N : News h₀ L h' ((I, oI) :: (C, oC) :: (D, oD) :: news)) (hS : S news) (r : rest y news) :
    LCg.CompEnd h₀ L m s₁ I oI C oC D oD S rest y { s₁ with heap := h', toks := tk } := LCg.CompEnd.intro F N news (fun _ h => h) off hS r
theorem pg_pos {a f : Int} (ha : 0 ≤ a) (hf : 1 ≤ f) (k : Nat) : 1000 ≤ pg a f k := by
  have : 1 ≤ f ^ k := Int.pow_pos (n := f) (m := k) (by omega)
  unfold pg
  have h := Int.mul_le_mul (a := 1000) (b := 1) (c := 1000 + a) (d := f ^ k) (by omega) this (by decide) (by omega)
  omega
theorem pow_mono {f : Int} (hf : 1 ≤ f) {a b : Nat} (h : a ≤ b) : f ^ a ≤ f ^ b := by
  obtain ⟨c, rfl⟩ := Nat.le.dest h
  rw [Int.pow_add]
  have h1 : 1 ≤ f ^ a := Int.pow_pos (n := f) (m := a) (by omega)
  have h2 : 1 ≤ f ^ c := Int.pow_pos (n := f) (m := c) (by omega)
  have := Int.mul_le_mul (a := f ^ a) (b := 1) (c := f ^ a) (d := f ^ c) (Int.le_refl _) h2 (by decide) (by omega)
  omega
theorem pg_mono {a f : Int} (ha : 0 ≤ a) (hf : 1 ≤ f) {i j : Nat} (h : i ≤ j) : pg a f i ≤ pg a f j := by
  unfold pg
  exact Int.mul_le_mul_of_nonneg_left (pow_mono hf h) (by omega)
theorem pow_top {f : Int} (h0 : 1 ≤ f) (h1 : f ≤ 12) : ∀ n : Nat, f ^ n ≤ 12 ^ n
  | 0 => by simp
  | n + 1 => by
    rw [Int.pow_succ, Int.pow_succ]
    have ih := pow_top h0 h1 n
    have h2 : 1 ≤ f ^ n := Int.pow_pos (n := f) (m := n) (by omega)
    exact Int.mul_le_mul ih h1 (by omega) (by omega)
theorem pg_hi {a f : Int} (ha : 0 ≤ a ∧ a < 9000) (h0 : 1 ≤ f) (h1 : f ≤ 12) {i : Nat} (hi : i ≤ 9) : pg a f i < 10 ^ 14 := by
  have h := pg_mono (a := a) (f := f) ha.1 h0 hi
  have h2 := pow_top h0 h1 9
  have h3 : pg a f 9 ≤ 9999 * 12 ^ 9 := by
    unfold pg
    exact Int.mul_le_mul (by omega) h2 (Int.le_of_lt (Int.pow_pos (n := f) (m := 9) (by omega))) (by decide)
  have h4 : (9999 * 12 ^ 9 : Int) < 10 ^ 14 := by decide
  omega
noncomputable def PG (a f : Int) : List Int := (List.range 10).map (pg a f)
theorem pg_getD {a f : Int} {k : Nat} (h : k < 10) : (PG a f).getD k 0 = pg a f k := by
  unfold PG
  rw [List.getD_eq_getElem?_getD, List.getElem?_map, List.getElem?_range h]; rfl
theorem pages_ok {a f : Int} (ha : 0 ≤ a ∧ a < 9000) (hf : 1 ≤ f ∧ f ≤ 12) : PagesOk (PG a f) where
  len := rfl
  lo := fun k hk => by rw [pg_getD hk]; exact pg_pos ha.1 hf.1 k
  hi := fun k hk => by rw [pg_getD hk]; exact pg_hi ha hf.1 hf.2 (by omega)
  mono := fun i j h hj => by rw [pg_getD hj, pg_getD (by omega)]; exact pg_mono ha.1 hf.1 h
theorem ints_at : ∀ {vs : List Value} {ns : List Int}, IntsAre vs ns → ∀ {i : Nat} {v : Value}, vs[i]? = some v → ∃ k t, ns[i]? = some k ∧ v = .int k t
  | _, _, .nil, i, v, e => by simp at e
  | _, _, .cons k t r, 0, v, e => by simp at e; exact ⟨k, t, rfl, e.symm⟩
  | _, _, .cons k t r, i + 1, v, e => by
    obtain ⟨k', t', a, b⟩ := ints_at r (i := i) (v := v) (by simpa using e)
    exact ⟨k', t', by simpa using a, b⟩
theorem ints_atA {vs : List Value} {ns : List Int} (h : IntsAre vs ns) {i : Nat} {v : Value} (e : vs.toArray[i]? = some v) : ∃ k, ns[i]? = some k ∧ ∃ t, v = .int k t := by
  obtain ⟨k, t, a, b⟩ := ints_at h (i := i) (v := v) (by simpa using e)
  exact ⟨k, a, t, b⟩
theorem pg_mem {a f x : Int} (ha : 0 ≤ a ∧ a < 9000) (hf : 1 ≤ f ∧ f ≤ 12) (h : x ∈ PG a f) : 1 ≤ x ∧ x < 10 ^ 20 ∧ x < 10 ^ 14 := by
  unfold PG at h
  obtain ⟨k, hk, rfl⟩ := List.mem_map.mp h
  have hk' : k < 10 := by simpa using hk
  have h1 := pg_pos (a := a) (f := f) ha.1 hf.1 k
  have h2 := pg_hi (a := a) (f := f) ha hf.1 hf.2 (i := k) (by omega)
  exact ⟨by omega, by omega, h2⟩
theorem news_tail {h₀ h : Heap} {L : Addr} {p : Addr × Obj} {news : List (Addr × Obj)} (N : News h₀ L h (p :: news)) : News h₀ L h news := fun q hq => N q (.tail _ hq)
theorem off1_ne {D x : Addr} {o : Obj} : ∀ {news : List (Addr × Obj)}, LCg.Off1 D news → (x, o) ∈ news → @Ne Nat x D
  | _ :: _, h, .head _ => h.1
  | _ :: _, h, .tail _ m => off1_ne h.2 m
theorem int_end {a b : Int} {t : Tok} (h : a = b) : ∃ u, Value.int a t = .int b u := ⟨t, by rw [h]⟩
theorem str_end {a b : PySem.Str} {t : Tok} (h : a = b) : ∃ u, Value.str a t = .str b u := ⟨t, by rw [h]⟩
end Mine
end
section
open PySem PySem.W PySem.Calls PyProof.Rows PyProof.V PySem.Spec PySem.SeqAt
set_option Elab.async false
set_option linter.all false
namespace Mine
/-- the step's sign -/
noncomputable def stp (low high : PySem.Str) (a f : Int) (k : Nat) : PySem.Str := if figs (pg a f (k + 1)) - figs (pg a f k) = figs f then high else low
noncomputable def stepsS (low high : PySem.Str) (a f : Int) : PySem.Str := Txt.join (PySem.Str.ofString "") ((List.range 9).map (stp low high a f))
noncomputable def txt (d : Int) (S : PySem.Str) (k : Nat) : PySem.Str := esc d (Txt.slice S (some (0 + (k : Int))) (some (0 + (k : Int) + 4)))
noncomputable def sg (x y : Nat) (a f : Int) (k : Nat) : Nat := if figs (pg a f (k + 1)) - figs (pg a f k) = figs f then y else x
theorem stp_sg (x y : Nat) (a f : Int) (k : Nat) : stp ⟨#[x]⟩ ⟨#[y]⟩ a f k = ⟨#[sg x y a f k]⟩ := by unfold stp sg; split <;> rfl
theorem figs_getD {a f : Int} {k : Nat} (hk : k < 10) : ((PG a f).map figs).getD k 0 = figs (pg a f k) := by
  unfold PG
  rw [List.map_map, List.getD_eq_getElem?_getD, List.getElem?_map, List.getElem?_range hk]; rfl
theorem stp_at {low high : PySem.Str} {a f : Int} {k : Nat} (hk : k < 9) : (((PG a f).map figs).getD (0 + (k : Int) + 1).toNat 0 - ((PG a f).map figs).getD (0 + (k : Int)).toNat 0 = figs f ↔ figs (pg a f (k + 1)) - figs (pg a f k) = figs f) := by
  rw [show (0 + (k : Int) + 1).toNat = k + 1 by omega, show (0 + (k : Int)).toNat = k by omega, figs_getD (by omega), figs_getD (by omega)]
theorem stp_hi {low high : PySem.Str} {a f : Int} {k : Nat} (hk : k < 9) (h : ((PG a f).map figs).getD (0 + (k : Int) + 1).toNat 0 - ((PG a f).map figs).getD (0 + (k : Int)).toNat 0 = figs f) : high = stp low high a f k := by
  unfold stp
  rw [if_pos ((stp_at (low := low) (high := high) hk).mp h)]
theorem stp_lo {low high : PySem.Str} {a f : Int} {k : Nat} (hk : k < 9) (h : ((PG a f).map figs).getD (0 + (k : Int) + 1).toNat 0 - ((PG a f).map figs).getD (0 + (k : Int)).toNat 0 ≠ figs f) : low = stp low high a f k := by
  unfold stp
  rw [if_neg fun q => h ((stp_at (low := low) (high := high) hk).mpr q)]
theorem steps_sg (x y : Nat) (a f : Int) : stepsS ⟨#[x]⟩ ⟨#[y]⟩ a f = ⟨((List.range 9).map (sg x y a f)).toArray⟩ := by
  refine str_eq ?_
  have : (PySem.Str.ofString "").cps.toList = [] := by decide +kernel
  unfold stepsS Txt.join
  rw [StrLaws.glued_eq_join, join_nil_list _ this, List.flatMap_map]
  simp only [stp_sg]
  rfl
theorem steps_fit {low high : PySem.Str} (two : TwoSigns low high) (a f : Int) : (stepsS low high a f).length ≤ sizeLine := by
  obtain ⟨x, _, y, _, _, rfl, rfl⟩ := two
  rw [steps_sg]
  exact Nat.le_of_ble_eq_true rfl
theorem slice_nine (s0 s1 s2 s3 s4 s5 s6 s7 s8 : Nat) :
    Txt.slice ⟨#[s0, s1, s2, s3, s4, s5, s6, s7, s8]⟩ (some (0 + ((0 : Nat) : Int))) (some (0 + ((0 : Nat) : Int) + 4)) = ⟨#[s0, s1, s2, s3]⟩ ∧
    Txt.slice ⟨#[s0, s1, s2, s3, s4, s5, s6, s7, s8]⟩ (some (0 + ((1 : Nat) : Int))) (some (0 + ((1 : Nat) : Int) + 4)) = ⟨#[s1, s2, s3, s4]⟩ ∧
    Txt.slice ⟨#[s0, s1, s2, s3, s4, s5, s6, s7, s8]⟩ (some (0 + ((2 : Nat) : Int))) (some (0 + ((2 : Nat) : Int) + 4)) = ⟨#[s2, s3, s4, s5]⟩ ∧
    Txt.slice ⟨#[s0, s1, s2, s3, s4, s5, s6, s7, s8]⟩ (some (0 + ((3 : Nat) : Int))) (some (0 + ((3 : Nat) : Int) + 4)) = ⟨#[s3, s4, s5, s6]⟩ ∧
    Txt.slice ⟨#[s0, s1, s2, s3, s4, s5, s6, s7, s8]⟩ (some (0 + ((4 : Nat) : Int))) (some (0 + ((4 : Nat) : Int) + 4)) = ⟨#[s4, s5, s6, s7]⟩ ∧
    Txt.slice ⟨#[s0, s1, s2, s3, s4, s5, s6, s7, s8]⟩ (some (0 + ((5 : Nat) : Int))) (some (0 + ((5 : Nat) : Int) + 4)) = ⟨#[s5, s6, s7, s8]⟩ := ⟨rfl, rfl, rfl, rfl, rfl, rfl⟩
theorem slice_sg (x y : Nat) (a f : Int) {k : Nat} (hk : k < 6) : Txt.slice (stepsS ⟨#[x]⟩ ⟨#[y]⟩ a f) (some (0 + (k : Int))) (some (0 + (k : Int) + 4)) = ⟨#[sg x y a f k, sg x y a f (k + 1), sg x y a f (k + 2), sg x y a f (k + 3)]⟩ := by
  rw [steps_sg]
  have e : ((List.range 9).map (sg x y a f)).toArray = #[sg x y a f 0, sg x y a f 1, sg x y a f 2, sg x y a f 3, sg x y a f 4, sg x y a f 5, sg x y a f 6, sg x y a f 7, sg x y a f 8] := rfl
  rw [e]
  have h := slice_nine (sg x y a f 0) (sg x y a f 1) (sg x y a f 2) (sg x y a f 3) (sg x y a f 4) (sg x y a f 5) (sg x y a f 6) (sg x y a f 7) (sg x y a f 8)
  have : k = 0 ∨ k = 1 ∨ k = 2 ∨ k = 3 ∨ k = 4 ∨ k = 5 := by omega
  rcases this with rfl | rfl | rfl | rfl | rfl | rfl
  · exact h.1
  · exact h.2.1
  · exact h.2.2.1
  · exact h.2.2.2.1
  · exact h.2.2.2.2.1
  · exact h.2.2.2.2.2
theorem slice_len {low high : PySem.Str} (two : TwoSigns low high) (a f : Int) {k : Nat} (hk : k < 6) : (Txt.slice (stepsS low high a f) (some (0 + (k : Int))) (some (0 + (k : Int) + 4))).length ≤ 4 := by
  obtain ⟨x, _, y, _, _, rfl, rfl⟩ := two
  rw [slice_sg x y a f hk]; exact Nat.le_refl _
theorem steps_join {low high : PySem.Str} (two : TwoSigns low high) (a f : Int) : (((List.range 9).map (stp low high a f)).map (·.length)).sum + ((List.range 9).map (stp low high a f)).length ≤ 1048576 := by
  obtain ⟨x, _, y, _, _, rfl, rfl⟩ := two
  have e : ((List.range 9).map (stp ⟨#[x]⟩ ⟨#[y]⟩ a f)).map (·.length) = [1, 1, 1, 1, 1, 1, 1, 1, 1] := by
    rw [List.map_map]
    simp only [Function.comp_def, stp_sg]
    rfl
  rw [e, List.length_map, List.length_range]
  decide
theorem nine_ok : ∀ h : Fin 5, ∀ x ∈ nine, ∀ c ∈ escC (h.val : Int) x, c < 1114112 := by decide +kernel
theorem txt_ok {low high : PySem.Str} (two : TwoSigns low high) {d : Int} (hd : 0 ≤ d ∧ d < 5) (a f : Int) {k : Nat} (hk : k < 6) : PyData.strOk (txt d (stepsS low high a f) k) = true := by
  obtain ⟨x, hx, y, hy, _, rfl, rfl⟩ := two
  unfold txt PyData.strOk
  rw [slice_sg x y a f hk]
  refine Array.all_eq_true_iff_forall_mem.mpr ?_
  intro c hc
  have hc' : c ∈ (esc d ⟨#[sg x y a f k, sg x y a f (k + 1), sg x y a f (k + 2), sg x y a f (k + 3)]⟩).cps.toList := by simpa using hc
  unfold esc at hc'
  rw [flat_list] at hc'
  obtain ⟨z, hz, hzc⟩ := List.mem_flatMap.mp hc'
  have hz' : z = x ∨ z = y := by
    have hs : ∀ j, sg x y a f j = x ∨ sg x y a f j = y := fun j => by unfold sg; split <;> simp
    simp only [List.mem_cons, List.not_mem_nil, or_false] at hz
    rcases hz with rfl | rfl | rfl | rfl <;> exact hs _
  obtain ⟨n, rfl⟩ := Int.eq_ofNat_of_zero_le hd.1
  have hn : z ∈ nine := by rcases hz' with rfl | rfl <;> assumption
  exact decide_eq_true (nine_ok ⟨n, by omega⟩ z hn c hzc)
theorem readsAll_of_strs {h : Heap} : ∀ {vs : List Value} {ns : List PySem.Str}, StrsAre vs ns → ReadsAll h vs (ns.map PyData.str) []
  | _, _, .nil => .nil
  | _, _, .cons k t r => by
    have := ReadsAll.cons (Reads.str (h := h) k t) (readsAll_of_strs (h := h) r)
    simpa using this
theorem reads_of_strs {h : Heap} {a : Addr} {vs : List Value} {ns : List PySem.Str} (hl : h.IsList a vs.toArray) (hi : StrsAre vs ns) : Reads h (.ref a) (.list (ns.map PyData.str)) [a] := by
  obtain ⟨o, ho, hc, n, hd⟩ := hl
  exact Reads.list ho hc hd (by simpa using readsAll_of_strs hi)
theorem canLayAll0_strs : ∀ ns : List PySem.Str, (∀ y ∈ ns, PyData.strOk y = true) → PyData.canLayAll0 (ns.map PyData.str) = true
  | [], _ => by simp [PyData.canLayAll0]
  | n :: r, h => by simp [PyData.canLayAll0, PyData.canLay0, canLayAll0_strs r fun y hy => h y (.tail _ hy), h n (.head _)]
theorem depthAll_strs : ∀ ns : List PySem.Str, PyData.depthAll (ns.map PyData.str) ≤ 1
  | [] => by simp [PyData.depthAll]
  | n :: r => by
    have := depthAll_strs r
    simp only [List.map_cons, PyData.depthAll, PyData.depth]
    omega
theorem shaped_strs (ns : List PySem.Str) (h : ∀ y ∈ ns, PyData.strOk y = true) : shaped (.list (ns.map PyData.str)) = true := by
  have h1 := depthAll_strs ns
  have h2 : PyData.depth (.list (ns.map PyData.str)) ≤ 64 := by simp only [PyData.depth]; omega
  show (PyData.canLay0 (.list (ns.map PyData.str)) && decide (PyData.depth (.list (ns.map PyData.str)) ≤ 64)) = true
  rw [Bool.and_eq_true]
  exact ⟨by simp only [PyData.canLay0]; exact canLayAll0_strs ns h, decide_eq_true h2⟩
theorem noMix_strs : ∀ ns ms : List PySem.Str, noMixAll (ns.map PyData.str) (ms.map PyData.str) = true
  | [], [] => by simp [noMixAll]
  | [], _ :: _ => by simp [noMixAll]
  | _ :: _, [] => by simp [noMixAll]
  | _ :: r, _ :: q => by simp [noMixAll, noMix, noMix_strs r q]
theorem same_strs : ∀ ns : List PySem.Str, PySem.Spec.sameAll (ns.map PyData.str) (ns.map PyData.str) = true
  | [] => by simp [PySem.Spec.sameAll]
  | n :: r => by simp [PySem.Spec.sameAll, PySem.Spec.same, same_strs r]
section
variable {prog : Program} {w : World} {A : Around} {E : Value → Shared → Prop} {s : Shared}
/-- two lists of the same texts do not differ -/
theorem ne_strsK {a b : Addr} {vs us : List Value} {ns : List PySem.Str} {Q : Value → Shared → Prop} (hl : s.heap.IsList a vs.toArray) (hi : StrsAre vs ns) (hl' : s.heap.IsList b us.toArray) (hi' : StrsAre us ns) (ok : ∀ y ∈ ns, PyData.strOk y = true) (hu : A.units + 64 < cLine)
    (h : Q (.bool false) s) : wpAny (model prog w) A (compareOp .NotEq (.ref a) (.ref b)) Q E s :=
  ne_dataH_same (reads_of_strs hl hi) (reads_of_strs hl' hi') (shaped_strs ns ok) (shaped_strs ns ok) hu (by simp only [noMix]; exact noMix_strs ns ns) (by simp only [PySem.Spec.same]; rw [same_strs]; exact h)
end
theorem ints_get {vs : List Value} {ns : List Int} (h : IntsAre vs ns) {i : Nat} (hi : i < ns.length) : ∃ t, vs[i]? = some (.int (ns.getD i 0) t) := by
  have hl : vs.length = ns.length := h.length
  obtain ⟨k, t, a, b⟩ := ints_at h (i := i) (v := vs[i]'(by omega)) (List.getElem?_eq_getElem _)
  refine ⟨t, ?_⟩
  rw [List.getD_eq_getElem?_getD, a]
  exact (List.getElem?_eq_getElem (by omega)).trans (congrArg some b)
theorem itemI_at {prog : Program} {w : World} {A : Around} {E : Value → Shared → Prop} {s : Shared} {h₀ : Heap} {L : Addr} {news : List (Addr × Obj)} {value slice : PySem.Expr} {l : Addr} {vs : List Value} {ns : List Int} {n : Nat} {k : Int} {u : Tok} {Q : Value → Shared → Prop}
    (N : News h₀ L s.heap news) (hm : (l, listOf vs.toArray n) ∈ news) (hi : IntsAre vs ns) (h0 : 0 ≤ k) (hhi : k < 2 ^ 63) (hk : k.toNat < ns.length) (h : ∀ t, Q (.int (ns.getD k.toNat 0) t) s)
    (hs : subscripted slice false (.ref l) (.int k u) = operate [.ref l, .int k u] (getItem (.ref l) (.int k u)) := by with_unfolding_all rfl) :
    wpAny (model prog w) A (subscriptTail value slice (.ref l) (.int k u)) Q E s := by
  have hl : s.heap.IsList l vs.toArray := ⟨_, (N _ hm).1, rfl, n, rfl⟩
  obtain ⟨t, e⟩ := ints_get hi hk
  exact tail_any hl.typeIs slot_list_getitem.lookup (wpAny_getItem_list hl h0 hhi (by simpa using e) (h t)) hs
theorem strs_at : ∀ {vs : List Value} {ns : List PySem.Str}, StrsAre vs ns → ∀ {i : Nat} {v : Value}, vs[i]? = some v → ∃ k t, ns[i]? = some k ∧ v = .str k t
  | _, _, .nil, i, v, e => by simp at e
  | _, _, .cons k t r, 0, v, e => by simp at e; exact ⟨k, t, rfl, e.symm⟩
  | _, _, .cons k t r, i + 1, v, e => by
    obtain ⟨k', t', a, b⟩ := strs_at r (i := i) (v := v) (by simpa using e)
    exact ⟨k', t', by simpa using a, b⟩
theorem strs_get {vs : List Value} {ns : List PySem.Str} (h : StrsAre vs ns) {i : Nat} {x : PySem.Str} (hi : ns[i]? = some x) : ∃ t, vs[i]? = some (.str x t) := by
  have hl : vs.length = ns.length := h.len_eq
  have hlt := (List.getElem?_eq_some_iff.mp hi).1
  obtain ⟨k, t, a, b⟩ := strs_at h (i := i) (v := vs[i]'(by omega)) (List.getElem?_eq_getElem _)
  rw [hi] at a; cases a
  exact ⟨t, b ▸ List.getElem?_eq_getElem _⟩
theorem itemS_at {prog : Program} {w : World} {A : Around} {E : Value → Shared → Prop} {s : Shared} {h₀ : Heap} {L : Addr} {news : List (Addr × Obj)} {value slice : PySem.Expr} {l : Addr} {vs : List Value} {ns : List PySem.Str} {n : Nat} {k : Int} {u : Tok} {x : PySem.Str} {Q : Value → Shared → Prop}
    (N : News h₀ L s.heap news) (hm : (l, listOf vs.toArray n) ∈ news) (hi : StrsAre vs ns) (h0 : 0 ≤ k) (hhi : k < 2 ^ 63) (hk : ns[k.toNat]? = some x) (h : ∀ t, Q (.str x t) s)
    (hs : subscripted slice false (.ref l) (.int k u) = operate [.ref l, .int k u] (getItem (.ref l) (.int k u)) := by with_unfolding_all rfl) :
    wpAny (model prog w) A (subscriptTail value slice (.ref l) (.int k u)) Q E s := by
  have hl : s.heap.IsList l vs.toArray := ⟨_, (N _ hm).1, rfl, n, rfl⟩
  obtain ⟨t, e⟩ := strs_get hi hk
  exact tail_any hl.typeIs slot_list_getitem.lookup (wpAny_getItem_list hl h0 hhi (by simpa using e) (h t)) hs
end Mine
end
section
open PySem PySem.W PySem.Calls PyProof.Rows PyProof.V PySem.Spec PySem.SeqAt
set_option Elab.async false
set_option linter.all false
namespace Mine
theorem alpha_find0 : ∀ h : Fin 5, ∀ x ∈ nine, 0 ≤ Txt.find (alphaV (h.val : Int)) ⟨#[x]⟩ := by decide +kernel
theorem alpha_find {d : Int} (hd : 0 ≤ d ∧ d < 5) {low high : PySem.Str} (two : TwoSigns low high) : 0 ≤ Txt.find (alphaV d) low ∧ 0 ≤ Txt.find (alphaV d) high := by
  obtain ⟨x, hx, y, hy, _, rfl, rfl⟩ := two
  obtain ⟨n, rfl⟩ := Int.eq_ofNat_of_zero_le hd.1
  exact ⟨alpha_find0 ⟨n, by omega⟩ x hx, alpha_find0 ⟨n, by omega⟩ y hy⟩
theorem index_found {prog : Program} {w : World} {A : Around} {E : Value → Shared → Prop} {s : Shared} {x y : PySem.Str} {t u : Tok} {Q : Value → Shared → Prop} (hA : A.handled = none) (h0 : 0 ≤ Txt.find x y)
    (h1 : Q (.int (Txt.find x y) s.toks) { s with toks := s.toks + 1 }) : wpAny (model prog w) A (call (.builtin "str.index") [.str x t, .str y u]) Q E s :=
  index_or hA (fun e _ => absurd (e ▸ h0) (by decide)) fun _ _ => h1
noncomputable def RK (a f : Int) : List Int := (List.range 6).map fun k => rankV (pg a f k) f
theorem rk_eq (a f : Int) : ((PG a f).take 6).map (fun p => rankV p f) = RK a f := rfl
noncomputable def turnV (d : Int) (low high : PySem.Str) : Int := if Txt.find (alphaV d) low < Txt.find (alphaV d) high then 1 else -1
noncomputable def SameBut (s : Shared) (P : Value → Prop) (v : Value) (s' : Shared) : Prop := P v ∧ ∃ tk, s' = { s with toks := tk }
theorem SameBut.mk' {s : Shared} {P : Value → Prop} {v : Value} {tk : Nat} (h : P v) : SameBut s P v { s with toks := tk } := ⟨h, tk, rfl⟩
theorem eval_same {M : Model} {A : Around} {E : Value → Shared → Prop} {s : Shared} {a : Sem Value} {P : Value → Prop} {Q : Value → Shared → Prop} (h : wpAny M A a (SameBut s P) E s) (k : ∀ v tk, P v → Q v { s with toks := tk }) : wpAny M A a Q E s :=
  wpAny_mono h (fun v s' x => by obtain ⟨p, tk, rfl⟩ := x; exact k v tk p) fun _ _ e => e
theorem turn_pos {d : Int} {low high : PySem.Str} (h : Txt.find (alphaV d) low < Txt.find (alphaV d) high) : (1 : Int) = turnV d low high := by unfold turnV; rw [if_pos h]
theorem turn_neg {d : Int} {low high : PySem.Str} (h : ¬ Txt.find (alphaV d) low < Txt.find (alphaV d) high) : (-1 : Int) = turnV d low high := by unfold turnV; rw [if_neg h]
end Mine
end
section
open PySem PySem.W PySem.Calls PyProof.Rows PyProof.V PySem.Spec
set_option Elab.async false
set_option linter.all false
namespace Mine
theorem carry_bd (v n : Int) : carry v n = 0 ∨ carry v n = 1 := by unfold carry; split <;> simp
theorem rankV_eq (v f : Int) : rankV v f = carry v f + (carry v (f ^ 2) + (carry v (f ^ 3) + (carry v (f ^ 4) + 0))) := rfl
theorem rankV_bd (v f : Int) : 0 ≤ rankV v f ∧ rankV v f ≤ 4 := by
  rw [rankV_eq]
  rcases carry_bd v f with h1 | h1 <;> rcases carry_bd v (f ^ 2) with h2 | h2 <;> rcases carry_bd v (f ^ 3) with h3 | h3 <;> rcases carry_bd v (f ^ 4) with h4 | h4 <;> rw [h1, h2, h3, h4] <;> decide
theorem rk_get {a f : Int} {n : Nat} (h : n < 6) : (RK a f).getD n 0 = rankV (pg a f n) f := by
  unfold RK
  rw [List.getD_eq_getElem?_getD, List.getElem?_map, List.getElem?_range h]
  rfl
theorem turn_two (d : Int) (low high : PySem.Str) : turnV d low high = 1 ∨ turnV d low high = -1 := by unfold turnV; split <;> simp
theorem tr_bd {d : Int} {low high : PySem.Str} {a f : Int} {n : Nat} (h : n < 6) : -4 ≤ turnV d low high * (RK a f).getD n 0 ∧ turnV d low high * (RK a f).getD n 0 ≤ 4 := by
  rw [rk_get h]
  have := rankV_bd (pg a f n) f
  rcases turn_two d low high with e | e <;> rw [e] <;> omega
theorem tr_mul {d : Int} {low high : PySem.Str} {a f : Int} {n : Nat} (h : n < 6) : IntMulOk (turnV d low high) ((RK a f).getD n 0) := by
  have h1 : -1 ≤ turnV d low high ∧ turnV d low high ≤ 1 := by rcases turn_two d low high with e | e <;> rw [e] <;> decide
  have h2 : 0 ≤ (RK a f).getD n 0 ∧ (RK a f).getD n 0 ≤ 4 := by rw [rk_get h]; exact rankV_bd _ _
  generalize turnV d low high = x at *
  generalize (RK a f).getD n 0 = y at *
  mul_fits
end Mine
end
section
open PySem PySem.W PySem.Calls PyProof.Rows PyProof.V PySem.Spec
set_option Elab.async false
set_option linter.all false
namespace Mine
/-- u differs from v within both, and is less there -/
noncomputable def ltS : List Nat → List Nat → Bool
  | a :: as, b :: bs => if a < b then true else if a = b then ltS as bs else false
  | _, _ => false
theorem ltS_app : ∀ {u v : List Nat}, ltS u v = true → ∀ r t : List Nat, u ++ r < v ++ t
  | a :: as, b :: bs, h, r, t => by
    unfold ltS at h
    rw [List.cons_append, List.cons_append, List.cons_lt_cons_iff]
    by_cases h1 : a < b
    · exact Or.inl h1
    · rw [if_neg h1] at h
      by_cases h2 : a = b
      · rw [if_pos h2] at h
        exact Or.inr ⟨h2, ltS_app h r t⟩
      · rw [if_neg h2] at h; cases h
  | [], _, h, _, _ => by simp [ltS] at h
  | _ :: _, [], h, _, _ => by simp [ltS] at h
theorem app_lt : ∀ (c : List Nat) {u v : List Nat}, u < v → c ++ u < c ++ v
  | [], _, _, h => h
  | a :: c, u, v, h => by
    rw [List.cons_append, List.cons_append, List.cons_lt_cons_iff]
    exact Or.inr ⟨rfl, app_lt c h⟩
theorem codes0 : ∀ h : Fin 5, ∀ x ∈ nine, ∀ y ∈ nine, Txt.find (alphaV (h.val : Int)) ⟨#[x]⟩ < Txt.find (alphaV (h.val : Int)) ⟨#[y]⟩ → ltS (escC (h.val : Int) x) (escC (h.val : Int) y) = true := by decide +kernel
theorem codes1 : ∀ h : Fin 5, ∀ x ∈ nine, ∀ y ∈ nine, x ≠ y → Txt.find (alphaV (h.val : Int)) ⟨#[x]⟩ ≠ Txt.find (alphaV (h.val : Int)) ⟨#[y]⟩ := by decide +kernel
theorem codes {d : Int} (hd : 0 ≤ d ∧ d < 5) {x y : Nat} (hx : x ∈ nine) (hy : y ∈ nine) (h : Txt.find (alphaV d) ⟨#[x]⟩ < Txt.find (alphaV d) ⟨#[y]⟩) : ltS (escC d x) (escC d y) = true := by
  obtain ⟨n, rfl⟩ := Int.eq_ofNat_of_zero_le hd.1
  exact codes0 ⟨n, by omega⟩ x hx y hy h
theorem codes' {d : Int} (hd : 0 ≤ d ∧ d < 5) {x y : Nat} (hx : x ∈ nine) (hy : y ∈ nine) (hne : x ≠ y) (h : ¬ Txt.find (alphaV d) ⟨#[x]⟩ < Txt.find (alphaV d) ⟨#[y]⟩) : ltS (escC d y) (escC d x) = true := by
  obtain ⟨n, rfl⟩ := Int.eq_ofNat_of_zero_le hd.1
  have h1 := codes1 ⟨n, by omega⟩ x hx y hy hne
  refine codes0 ⟨n, by omega⟩ y hy x hx ?_
  show Txt.find (alphaV (n : Int)) _ < Txt.find (alphaV (n : Int)) _
  have h2 : Txt.find (alphaV (n : Int)) ⟨#[x]⟩ ≠ Txt.find (alphaV (n : Int)) ⟨#[y]⟩ := h1
  omega
noncomputable def sgb (x y : Nat) (b : Int) : Nat := if b = 1 then y else x
theorem sgb0 (x y : Nat) {b c : Int} (hb : b = 0 ∨ b = 1) (hc : c = 0 ∨ c = 1) (h : b < c) : sgb x y b = x ∧ sgb x y c = y := by
  have h1 : b = 0 := by omega
  have h2 : c = 1 := by omega
  subst h1; subst h2
  exact ⟨rfl, rfl⟩
theorem four_first (e : Nat → List Nat) (x y : Nat) {q0 q1 q2 q3 p0 p1 p2 p3 : Int} (bq0 : q0 = 0 ∨ q0 = 1) (bq1 : q1 = 0 ∨ q1 = 1) (bq2 : q2 = 0 ∨ q2 = 1) (bq3 : q3 = 0 ∨ q3 = 1) (bp0 : p0 = 0 ∨ p0 = 1) (bp1 : p1 = 0 ∨ p1 = 1) (bp2 : p2 = 0 ∨ p2 = 1) (bp3 : p3 = 0 ∨ p3 = 1)
    (h : q0 < p0 ∨ (q0 = p0 ∧ q1 < p1) ∨ (q0 = p0 ∧ q1 = p1 ∧ q2 < p2) ∨ (q0 = p0 ∧ q1 = p1 ∧ q2 = p2 ∧ q3 < p3)) :
    ∃ c r t, [sgb x y q0, sgb x y q1, sgb x y q2, sgb x y q3].flatMap e = c ++ (e x ++ r) ∧ [sgb x y p0, sgb x y p1, sgb x y p2, sgb x y p3].flatMap e = c ++ (e y ++ t) := by
  have fl : ∀ a b c d : Nat, [a, b, c, d].flatMap e = e a ++ (e b ++ (e c ++ e d)) := fun a b c d => by simp
  rw [fl, fl]
  rcases h with h | ⟨e0, h⟩ | ⟨e0, e1, h⟩ | ⟨e0, e1, e2, h⟩
  · obtain ⟨a, b⟩ := sgb0 x y bq0 bp0 h
    rw [a, b]
    exact ⟨[], _, _, rfl, rfl⟩
  · obtain ⟨a, b⟩ := sgb0 x y bq1 bp1 h
    rw [a, b, e0]
    exact ⟨_, _, _, rfl, rfl⟩
  · obtain ⟨a, b⟩ := sgb0 x y bq2 bp2 h
    rw [a, b, e0, e1]
    refine ⟨e (sgb x y p0) ++ e (sgb x y p1), e (sgb x y q3), e (sgb x y p3), ?_, ?_⟩ <;> simp
  · obtain ⟨a, b⟩ := sgb0 x y bq3 bp3 h
    rw [a, b, e0, e1, e2]
    refine ⟨e (sgb x y p0) ++ (e (sgb x y p1) ++ e (sgb x y p2)), [], [], ?_, ?_⟩ <;> simp
/-- numbers by their signs -/
noncomputable def valC : List Nat → Nat
  | [] => 0
  | c :: r => (c - 48) * 10 ^ r.length + valC r
theorem valC_acc : ∀ (l : List Nat) (acc : Nat), l.foldl (fun acc c => acc * 10 + (c - 48)) acc = acc * 10 ^ l.length + valC l
  | [], acc => by simp [valC]
  | c :: r, acc => by
    rw [List.foldl_cons, valC_acc r, valC, List.length_cons, Nat.pow_succ, Nat.add_mul, Nat.mul_assoc acc, Nat.mul_comm 10, Nat.add_assoc]
theorem valC_lt : ∀ {l : List Nat}, (∀ c ∈ l, 48 ≤ c ∧ c ≤ 57) → valC l < 10 ^ l.length
  | [], _ => by simp [valC]
  | c :: r, h => by
    have h1 := valC_lt (l := r) fun d hd => h d (.tail _ hd)
    have h2 := h c (.head _)
    have h3 : (c - 48) * 10 ^ r.length ≤ 9 * 10 ^ r.length := Nat.mul_le_mul_right _ (by omega)
    rw [valC, List.length_cons, Nat.pow_succ]
    omega
theorem lex_val : ∀ {u v : List Nat}, (∀ c ∈ u, 48 ≤ c ∧ c ≤ 57) → (∀ c ∈ v, 48 ≤ c ∧ c ≤ 57) → valC u * 10 ^ v.length < valC v * 10 ^ u.length → u < v
  | [], [], _, _, h => by simp [valC] at h
  | [], b :: v, _, _, _ => List.nil_lt_cons b v
  | a :: u, [], _, _, h => by simp [valC] at h
  | a :: u, b :: v, hu, hv, h => by
    have hu' : ∀ c ∈ u, 48 ≤ c ∧ c ≤ 57 := fun c hc => hu c (.tail _ hc)
    have hv' : ∀ c ∈ v, 48 ≤ c ∧ c ≤ 57 := fun c hc => hv c (.tail _ hc)
    have ha := hu a (.head _)
    have hb := hv b (.head _)
    have hl := valC_lt hv'
    rw [List.cons_lt_cons_iff]
    rw [valC, valC, List.length_cons, List.length_cons, Nat.pow_succ, Nat.pow_succ] at h
    generalize hm : 10 ^ u.length = m at *
    generalize hn : 10 ^ v.length = n at *
    have mpos : 0 < m := by rw [← hm]; exact Nat.pow_pos (by decide)
    have npos : 0 < n := by rw [← hn]; exact Nat.pow_pos (by decide)
    by_cases h1 : a < b
    · exact Or.inl h1
    · refine Or.inr ?_
      have e1 : ((a - 48) * m + valC u) * (n * 10) = ((a - 48) * (m * n) + valC u * n) * 10 := by
        rw [Nat.add_mul, Nat.add_mul, Nat.mul_assoc (a - 48), Nat.mul_assoc (a - 48) (m * n), Nat.mul_assoc m, Nat.mul_assoc (valC u)]
      have e2 : ((b - 48) * n + valC v) * (m * 10) = ((b - 48) * (m * n) + valC v * m) * 10 := by
        rw [Nat.add_mul, Nat.add_mul, Nat.mul_assoc (b - 48), Nat.mul_assoc (b - 48) (m * n), Nat.mul_comm m n, Nat.mul_assoc n, Nat.mul_assoc (valC v)]
      rw [e1, e2] at h
      have h' : (a - 48) * (m * n) + valC u * n < (b - 48) * (m * n) + valC v * m := by omega
      by_cases h2 : a = b
      · refine ⟨h2, lex_val hu' hv' ?_⟩
        rw [hm, hn]
        rw [h2] at h'
        omega
      · exfalso
        have h3 : (b - 48) + 1 ≤ a - 48 := by omega
        have h4 := Nat.mul_le_mul_right (m * n) h3
        rw [Nat.add_mul, Nat.one_mul] at h4
        have h5 : valC v * m < n * m := Nat.mul_lt_mul_of_pos_right hl mpos
        rw [Nat.mul_comm n m] at h5
        omega
theorem num_val (n : Nat) : valC (PySem.Str.ofString (toString (n : Int))).cps.toList = n := by
  rw [PySem.W.KIN.signs_num]
  have h := PySem.W.KIN.val_back n
  have e := valC_acc ((Nat.toDigits 10 n).map Char.toNat) 0
  rw [Nat.zero_mul, Nat.zero_add] at e
  rw [← e]; exact h
theorem num_dig (n : Nat) : ∀ c ∈ (PySem.Str.ofString (toString (n : Int))).cps.toList, 48 ≤ c ∧ c ≤ 57 := by
  intro c hc
  rw [PySem.W.KIN.signs_num] at hc
  obtain ⟨ch, hch, e⟩ := List.mem_map.mp hc
  have hd := Nat.isDigit_of_mem_toDigits (b := 10) (by decide) (by decide) hch
  rw [← e]
  simp only [Char.isDigit, Bool.and_eq_true, decide_eq_true_eq] at hd
  exact ⟨hd.1, hd.2⟩
theorem num_lt {p q : Int} (hp : 1 ≤ p) (hq : 1 ≤ q) (h : q * 10 ^ (figs p).toNat < p * 10 ^ (figs q).toNat) : (PySem.Str.ofString (toString q)).cps.toList < (PySem.Str.ofString (toString p)).cps.toList := by
  obtain ⟨n, rfl⟩ : ∃ n : Nat, p = (n : Int) := ⟨p.toNat, by omega⟩
  obtain ⟨k, rfl⟩ : ∃ n : Nat, q = (n : Int) := ⟨q.toNat, by omega⟩
  have ln : ∀ n : Nat, 1 ≤ (n : Int) → (PySem.Str.ofString (toString (n : Int))).cps.toList.length = (figs (n : Int)).toNat := fun n h => by
    have := text_len h
    have e : ((PySem.Str.ofString (toString (n : Int))).length : Int) = ((PySem.Str.ofString (toString (n : Int))).cps.toList.length : Int) := by rw [Array.length_toList]; rfl
    omega
  refine lex_val (num_dig k) (num_dig n) ?_
  rw [num_val, num_val, ln n hp, ln k hq]
  rw [ten_cast, ten_cast] at h
  exact_mod_cast h
end Mine
end
section
open PySem PySem.W PySem.Calls PyProof.Rows PyProof.V PySem.Spec
set_option Elab.async false
set_option linter.all false
namespace Mine
/-- what is due of two ranks -/
noncomputable def dueV (x y : Int) : Int := if x = y then 0 else if y < x then 1 else -1
theorem pow_one_eq (f : Int) : f ^ 1 = f := by rw [Int.pow_succ, Int.pow_zero, Int.one_mul]
theorem lt_ne {a b : Int} (h : a ≤ b) (n : ¬ a = b) : a < b := by omega
theorem ten_pos (k : Nat) : (0 : Int) < 10 ^ k := Int.pow_pos (by decide)
theorem fig_nat {p : Int} (hp : 1 ≤ p) : ∃ a : Nat, figs p = (a : Int) + 1 ∧ 10 ^ a ≤ p ∧ p < 10 ^ (a + 1) := by
  have h := figs_pos p
  refine ⟨(figs p - 1).toNat, by omega, figs_le hp, ?_⟩
  have e : (figs p - 1).toNat + 1 = (figs p).toNat := by omega
  rw [e]; exact figs_lt
theorem mul_up {a b c d : Int} (ha : 0 ≤ a) (hc : 0 < c) (h1 : a < b) (h2 : c ≤ d) : a * c < b * d :=
  Int.lt_of_lt_of_le (Int.mul_lt_mul_of_pos_right h1 hc) (Int.mul_le_mul_of_nonneg_left h2 (by omega))
theorem figs_mul {p n : Int} (hp : 1 ≤ p) (hn : 1 ≤ n) : figs (p * n) = figs p + figs n - 1 + carry p n := by
  obtain ⟨a, ea, pa, pa'⟩ := fig_nat hp
  obtain ⟨b, eb, nb, nb'⟩ := fig_nat hn
  have lo : (10 : Int) ^ (a + b) ≤ p * n := by
    rw [Int.pow_add]
    exact Int.mul_le_mul pa nb (Int.le_of_lt (ten_pos b)) (by omega)
  have hi : p * n < (10 : Int) ^ (a + b + 2) := by
    rw [show a + b + 2 = (a + 1) + (b + 1) by omega, Int.pow_add]
    exact mul_up (by omega) (by omega) pa' (Int.le_of_lt nb')
  unfold carry
  rw [ea, eb, show ((a : Int) + 1 + ((b : Int) + 1) - 1).toNat = a + b + 1 by omega]
  by_cases h : (10 : Int) ^ (a + b + 1) ≤ p * n
  · rw [if_pos h]
    refine figs_uniq (by omega) ?_ ?_
    · rw [show ((a : Int) + 1 + ((b : Int) + 1) - 1 + 1 - 1).toNat = a + b + 1 by omega]; exact h
    · rw [show ((a : Int) + 1 + ((b : Int) + 1) - 1 + 1).toNat = a + b + 2 by omega]; exact hi
  · rw [if_neg h]
    refine figs_uniq (by omega) ?_ ?_
    · rw [show ((a : Int) + 1 + ((b : Int) + 1) - 1 + 0 - 1).toNat = a + b by omega]; exact lo
    · rw [show ((a : Int) + 1 + ((b : Int) + 1) - 1 + 0).toNat = a + b + 1 by omega]; omega
theorem carry_mono {p q n : Int} (hp : 1 ≤ p) (hq : 1 ≤ q) (hn : 1 ≤ n) (h : q * 10 ^ (figs p).toNat ≤ p * 10 ^ (figs q).toNat) : carry q n ≤ carry p n := by
  obtain ⟨a, ea, pa, pa'⟩ := fig_nat hp
  obtain ⟨c, ec, qc, qc'⟩ := fig_nat hq
  obtain ⟨b, eb, nb, nb'⟩ := fig_nat hn
  unfold carry
  rw [ea, ec] at h
  rw [ea, ec, eb, show ((a : Int) + 1 + ((b : Int) + 1) - 1).toNat = b + (a + 1) by omega, show ((c : Int) + 1 + ((b : Int) + 1) - 1).toNat = b + (c + 1) by omega]
  rw [show ((a : Int) + 1).toNat = a + 1 by omega, show ((c : Int) + 1).toNat = c + 1 by omega] at h
  by_cases h1 : (10 : Int) ^ (b + (a + 1)) ≤ p * n
  · rw [if_pos h1]; split <;> omega
  · rw [if_neg h1]
    rw [if_neg]
    · omega
    intro h2
    have h1' : p * n < (10 : Int) ^ b * 10 ^ (a + 1) := by rw [← Int.pow_add]; omega
    rw [Int.pow_add] at h2
    have ta := ten_pos (a + 1)
    have tc := ten_pos (c + 1)
    generalize (10 : Int) ^ (a + 1) = A at *
    generalize (10 : Int) ^ (c + 1) = C at *
    generalize (10 : Int) ^ b = B at *
    have s1 : (B * C) * A ≤ (q * n) * A := Int.mul_le_mul_of_nonneg_right h2 (Int.le_of_lt ta)
    have s2 : (q * A) * n ≤ (p * C) * n := Int.mul_le_mul_of_nonneg_right h (by omega)
    have s3 : (p * n) * C < (B * A) * C := Int.mul_lt_mul_of_pos_right h1' tc
    have e1 : (q * n) * A = (q * A) * n := by ac_rfl
    have e2 : (p * C) * n = (p * n) * C := by ac_rfl
    have e3 : (B * C) * A = (B * A) * C := by ac_rfl
    omega
theorem carry_one {p : Int} (hp : 1 ≤ p) : carry p 1 = 0 := by
  have h := figs_mul hp (n := 1) (by decide)
  rw [Int.mul_one] at h
  have h1 : figs 1 = 1 := by decide +kernel
  omega
theorem pg_add (a f : Int) (i j : Nat) : pg a f (i + j) = pg a f i * f ^ j := by
  unfold pg
  rw [Int.pow_add, Int.mul_assoc]
theorem pow_one_le {f : Int} (hf : 1 ≤ f) (j : Nat) : 1 ≤ f ^ j := by
  have := pow_mono hf (Nat.zero_le j)
  simpa using this
section
variable {a f : Int} (ha : 0 ≤ a ∧ a < 9000) (hf : 1 ≤ f ∧ f ≤ 12)
include ha hf
theorem pg_ge (i : Nat) : 1 ≤ pg a f i := by
  have := pg_pos ha.1 hf.1 i
  omega
theorem figs_pg (i j : Nat) : figs (pg a f (i + j)) = figs (pg a f i) + figs (f ^ j) - 1 + carry (pg a f i) (f ^ j) := by
  rw [pg_add]
  exact figs_mul (pg_ge ha hf i) (pow_one_le hf.1 j)
/-- the step's bit -/
theorem bit_is (i j : Nat) : carry (pg a f (i + j)) f = (figs (f ^ (j + 1)) - figs (f ^ j) - figs f + 1) + carry (pg a f i) (f ^ (j + 1)) - carry (pg a f i) (f ^ j) := by
  have h1 := figs_pg ha hf i (j + 1)
  have h2 := figs_pg ha hf i j
  have h3 := figs_pg ha hf (i + j) 1
  rw [show f ^ 1 = f from pow_one_eq f] at h3
  rw [show i + (j + 1) = i + j + 1 by omega] at h1
  omega
theorem sg_bit (x y : Nat) (k : Nat) : sg x y a f k = sgb x y (carry (pg a f k) f) := by
  have h3 := figs_pg ha hf k 1
  rw [show f ^ 1 = f from pow_one_eq f] at h3
  unfold sg sgb
  rcases carry_bd (pg a f k) f with e | e
  · rw [e] at h3 ⊢
    rw [if_neg (by omega), if_neg (by decide)]
  · rw [e] at h3 ⊢
    rw [if_pos (by omega), if_pos rfl]
theorem txt_list (x y : Nat) (d : Int) {k : Nat} (hk : k < 6) : (txt d (stepsS ⟨#[x]⟩ ⟨#[y]⟩ a f) k).cps.toList =
    [sgb x y (carry (pg a f k) f), sgb x y (carry (pg a f (k + 1)) f), sgb x y (carry (pg a f (k + 2)) f), sgb x y (carry (pg a f (k + 3)) f)].flatMap (escC d) := by
  unfold txt esc
  rw [slice_sg x y a f hk, flat_list, sg_bit ha hf, sg_bit ha hf, sg_bit ha hf, sg_bit ha hf]
/-- the mantissas' order -/
theorem mant_le {i j : Nat} (h : pg a f i * 10 ^ (figs (pg a f j)).toNat ≤ pg a f j * 10 ^ (figs (pg a f i)).toNat) (n : Nat) : carry (pg a f i) (f ^ n) ≤ carry (pg a f j) (f ^ n) :=
  carry_mono (pg_ge ha hf j) (pg_ge ha hf i) (pow_one_le hf.1 n) h
theorem mant_lt {i j : Nat} (h : rankV (pg a f i) f < rankV (pg a f j) f) : pg a f i * 10 ^ (figs (pg a f j)).toNat < pg a f j * 10 ^ (figs (pg a f i)).toNat := by
  refine Int.lt_of_not_ge fun q => ?_
  have h1 := mant_le ha hf q 1
  have h2 := mant_le ha hf q 2
  have h3 := mant_le ha hf q 3
  have h4 := mant_le ha hf q 4
  rw [show f ^ 1 = f from pow_one_eq f] at h1
  rw [rankV_eq, rankV_eq] at h
  omega
theorem coll_str_lt {i j : Nat} (h : rankV (pg a f i) f < rankV (pg a f j) f) : (PySem.Str.ofString (toString (pg a f i))).cps.toList < (PySem.Str.ofString (toString (pg a f j))).cps.toList :=
  num_lt (pg_ge ha hf j) (pg_ge ha hf i) (mant_lt ha hf h)
theorem all_same {i j : Nat} (h : rankV (pg a f i) f = rankV (pg a f j) f) : carry (pg a f i) f = carry (pg a f j) f ∧ carry (pg a f i) (f ^ 2) = carry (pg a f j) (f ^ 2) ∧ carry (pg a f i) (f ^ 3) = carry (pg a f j) (f ^ 3) ∧ carry (pg a f i) (f ^ 4) = carry (pg a f j) (f ^ 4) := by
  rw [rankV_eq, rankV_eq] at h
  rcases Int.le_total (pg a f i * 10 ^ (figs (pg a f j)).toNat) (pg a f j * 10 ^ (figs (pg a f i)).toNat) with q | q
  · have h1 := mant_le ha hf q 1
    have h2 := mant_le ha hf q 2
    have h3 := mant_le ha hf q 3
    have h4 := mant_le ha hf q 4
    rw [show f ^ 1 = f from pow_one_eq f] at h1
    omega
  · have h1 := mant_le ha hf q 1
    have h2 := mant_le ha hf q 2
    have h3 := mant_le ha hf q 3
    have h4 := mant_le ha hf q 4
    rw [show f ^ 1 = f from pow_one_eq f] at h1
    omega
theorem bits4 (i : Nat) : carry (pg a f i) f = carry (pg a f i) f ∧
    carry (pg a f (i + 1)) f = (figs (f ^ 2) - figs f - figs f + 1) + carry (pg a f i) (f ^ 2) - carry (pg a f i) f ∧
    carry (pg a f (i + 2)) f = (figs (f ^ 3) - figs (f ^ 2) - figs f + 1) + carry (pg a f i) (f ^ 3) - carry (pg a f i) (f ^ 2) ∧
    carry (pg a f (i + 3)) f = (figs (f ^ 4) - figs (f ^ 3) - figs f + 1) + carry (pg a f i) (f ^ 4) - carry (pg a f i) (f ^ 3) := by
  refine ⟨rfl, ?_, bit_is ha hf i 2, bit_is ha hf i 3⟩
  have h := bit_is ha hf i 1
  rw [show f ^ 1 = f from pow_one_eq f] at h
  exact h
theorem txt_same (x y : Nat) (d : Int) {i j : Nat} (hi : i < 6) (hj : j < 6) (h : rankV (pg a f i) f = rankV (pg a f j) f) : txt d (stepsS ⟨#[x]⟩ ⟨#[y]⟩ a f) i = txt d (stepsS ⟨#[x]⟩ ⟨#[y]⟩ a f) j := by
  refine str_eq ?_
  rw [txt_list ha hf x y d hi, txt_list ha hf x y d hj]
  obtain ⟨c1, c2, c3, c4⟩ := all_same ha hf h
  obtain ⟨_, i1, i2, i3⟩ := bits4 ha hf i
  obtain ⟨_, j1, j2, j3⟩ := bits4 ha hf j
  rw [c1, show carry (pg a f (i + 1)) f = carry (pg a f (j + 1)) f by omega, show carry (pg a f (i + 2)) f = carry (pg a f (j + 2)) f by omega, show carry (pg a f (i + 3)) f = carry (pg a f (j + 3)) f by omega]
theorem txt_first (x y : Nat) (d : Int) {i j : Nat} (hi : i < 6) (hj : j < 6) (h : rankV (pg a f i) f < rankV (pg a f j) f) :
    ∃ c r t, (txt d (stepsS ⟨#[x]⟩ ⟨#[y]⟩ a f) i).cps.toList = c ++ (escC d x ++ r) ∧ (txt d (stepsS ⟨#[x]⟩ ⟨#[y]⟩ a f) j).cps.toList = c ++ (escC d y ++ t) := by
  rw [txt_list ha hf x y d hi, txt_list ha hf x y d hj]
  refine four_first (escC d) x y (carry_bd _ _) (carry_bd _ _) (carry_bd _ _) (carry_bd _ _) (carry_bd _ _) (carry_bd _ _) (carry_bd _ _) (carry_bd _ _) ?_
  have q := Int.le_of_lt (mant_lt ha hf h)
  have h1 := mant_le ha hf q 1
  have h2 := mant_le ha hf q 2
  have h3 := mant_le ha hf q 3
  have h4 := mant_le ha hf q 4
  rw [show f ^ 1 = f from pow_one_eq f] at h1
  rw [rankV_eq, rankV_eq] at h
  obtain ⟨_, i1, i2, i3⟩ := bits4 ha hf i
  obtain ⟨_, j1, j2, j3⟩ := bits4 ha hf j
  clear hi hj q
  generalize carry (pg a f i) f = a1 at *
  generalize carry (pg a f j) f = b1 at *
  generalize carry (pg a f i) (f ^ 2) = a2 at *
  generalize carry (pg a f j) (f ^ 2) = b2 at *
  generalize carry (pg a f i) (f ^ 3) = a3 at *
  generalize carry (pg a f j) (f ^ 3) = b3 at *
  generalize carry (pg a f i) (f ^ 4) = a4 at *
  generalize carry (pg a f j) (f ^ 4) = b4 at *
  rw [i1, i2, i3, j1, j2, j3]
  by_cases e1 : a1 = b1
  · subst e1
    by_cases e2 : a2 = b2
    · subst e2
      by_cases e3 : a3 = b3
      · subst e3
        have e4 : a4 < b4 := by clear i1 i2 i3 j1 j2 j3; omega
        exact Or.inr (Or.inr (Or.inr ⟨rfl, rfl, rfl, Int.sub_lt_sub_right (Int.add_lt_add_left e4 _) _⟩))
      · exact Or.inr (Or.inr (Or.inl ⟨rfl, rfl, Int.sub_lt_sub_right (Int.add_lt_add_left (Mine.lt_ne h3 e3) _) _⟩))
    · exact Or.inr (Or.inl ⟨rfl, Int.sub_lt_sub_right (Int.add_lt_add_left (Mine.lt_ne h2 e2) _) _⟩)
  · exact Or.inl (Mine.lt_ne h1 e1)
end
theorem coll_lt {x y : PySem.Str} (h : x.cps.toList < y.cps.toList) : collV x y = -1 := by
  have h2 : ¬ y.cps.toList < x.cps.toList := List.lt_asymm h
  unfold collV b2i
  simp [h, h2]
theorem coll_gt {x y : PySem.Str} (h : y.cps.toList < x.cps.toList) : collV x y = 1 := by
  have h2 : ¬ x.cps.toList < y.cps.toList := List.lt_asymm h
  unfold collV b2i
  simp [h, h2]
theorem coll_self (x : PySem.Str) : collV x x = 0 := by
  unfold collV
  omega
theorem coll_txt {d : Int} (hd : 0 ≤ d ∧ d < 5) {low high : PySem.Str} (two : TwoSigns low high) {a f : Int} (ha : 0 ≤ a ∧ a < 9000) (hf : 1 ≤ f ∧ f ≤ 12) {i j : Nat} (hi : i < 6) (hj : j < 6) :
    collV (txt d (stepsS low high a f) i) (txt d (stepsS low high a f) j) = turnV d low high * dueV (rankV (pg a f i) f) (rankV (pg a f j) f) := by
  obtain ⟨x, hx, y, hy, hne, rfl, rfl⟩ := two
  unfold dueV turnV
  by_cases h : rankV (pg a f i) f = rankV (pg a f j) f
  · rw [if_pos h, txt_same ha hf x y d hi hj h, coll_self, Int.mul_zero]
  · rw [if_neg h]
    by_cases h2 : rankV (pg a f j) f < rankV (pg a f i) f
    · rw [if_pos h2]
      obtain ⟨c, r, t, e1, e2⟩ := txt_first ha hf x y d hj hi h2
      by_cases h3 : Txt.find (alphaV d) ⟨#[x]⟩ < Txt.find (alphaV d) ⟨#[y]⟩
      · rw [if_pos h3]
        refine coll_gt ?_
        rw [e1, e2]
        exact app_lt c (ltS_app (codes hd hx hy h3) r t)
      · rw [if_neg h3]
        refine coll_lt ?_
        rw [e1, e2]
        exact app_lt c (ltS_app (codes' hd hx hy hne h3) t r)
    · rw [if_neg h2]
      obtain ⟨c, r, t, e1, e2⟩ := txt_first ha hf x y d hi hj (by omega)
      by_cases h3 : Txt.find (alphaV d) ⟨#[x]⟩ < Txt.find (alphaV d) ⟨#[y]⟩
      · rw [if_pos h3]
        refine coll_lt ?_
        rw [e1, e2]
        exact app_lt c (ltS_app (codes hd hx hy h3) r t)
      · rw [if_neg h3]
        refine coll_gt ?_
        rw [e1, e2]
        exact app_lt c (ltS_app (codes' hd hx hy hne h3) t r)
theorem coll_str {a f : Int} (ha : 0 ≤ a ∧ a < 9000) (hf : 1 ≤ f ∧ f ≤ 12) {i j : Nat} (hi : i < 6) (hj : j < 6) (hne : rankV (pg a f i) f ≠ rankV (pg a f j) f) :
    collV (PySem.Str.ofString (toString (pg a f i))) (PySem.Str.ofString (toString (pg a f j))) = dueV (rankV (pg a f i) f) (rankV (pg a f j) f) := by
  unfold dueV
  rw [if_neg hne]
  by_cases h2 : rankV (pg a f j) f < rankV (pg a f i) f
  · rw [if_pos h2]; exact coll_gt (coll_str_lt ha hf h2)
  · rw [if_neg h2]; exact coll_lt (coll_str_lt ha hf (by omega))
end Mine
end
section
open PySem PySem.W PySem.Calls PyProof.Rows PyProof.V PySem.Spec
set_option Elab.async false
set_option linter.all false
namespace Mine
theorem lex_lt_irrefl (x : List Nat) : ¬ x < x := List.lt_irrefl x
theorem coll_zero {x y : PySem.Str} (h : collV x y = 0) : x = y := by
  refine str_eq ?_
  unfold collV b2i at h
  by_cases h1 : y.cps.toList < x.cps.toList
  · have h2 : ¬ x.cps.toList < y.cps.toList := List.lt_asymm h1
    simp [h1, h2] at h
  · by_cases h2 : x.cps.toList < y.cps.toList
    · simp [h1, h2] at h
    · exact List.le_antisymm h1 h2
theorem coll_neg {x y : PySem.Str} (h : collV x y ≤ 0) : ¬ y.cps.toList < x.cps.toList := by
  intro h1
  have h2 : ¬ x.cps.toList < y.cps.toList := List.lt_asymm h1
  unfold collV b2i at h
  simp [h1, h2] at h
theorem txt_le {d : Int} (hd : 0 ≤ d ∧ d < 5) {low high : PySem.Str} (two : TwoSigns low high) {a f : Int} (ha : 0 ≤ a ∧ a < 9000) (hf : 1 ≤ f ∧ f ≤ 12) {i j : Nat} (hi : i < 6) (hj : j < 6)
    (h : turnV d low high * (RK a f).getD i 0 ≤ turnV d low high * (RK a f).getD j 0) :
    ¬ (txt d (stepsS low high a f) j).cps.toList < (txt d (stepsS low high a f) i).cps.toList := by
  refine coll_neg ?_
  rw [coll_txt hd two ha hf hi hj]
  rw [rk_get hi, rk_get hj] at h
  unfold dueV
  rcases turn_two d low high with e | e <;> rw [e] at h ⊢ <;> split <;> try split
  all_goals omega
/-- two sorted rows of the same texts are the same -/
theorem sorted_one : ∀ {xs ys : List PySem.Str}, xs.Perm ys → xs.Pairwise (fun x y => ¬ y.cps.toList < x.cps.toList) → ys.Pairwise (fun x y => ¬ y.cps.toList < x.cps.toList) → xs = ys := by
  intro xs ys hp h1 h2
  refine hp.eq_of_pairwise (fun a b _ _ ha hb => ?_) h1 h2
  exact str_eq (List.le_antisymm ha hb)
theorem order_mem {no : List Int} (hp : no.Perm ((List.range 6).map fun (k : Nat) => (k : Int))) {k : Int} (h : k ∈ no) : 0 ≤ k ∧ k < 6 ∧ k.toNat < 6 := by
  obtain ⟨n, hn, rfl⟩ := List.mem_map.mp (hp.mem_iff.mp h)
  have : n < 6 := by simpa using hn
  omega
theorem order_eq {d : Int} (hd : 0 ≤ d ∧ d < 5) {low high : PySem.Str} (two : TwoSigns low high) {a f : Int} (ha : 0 ≤ a ∧ a < 9000) (hf : 1 ≤ f ∧ f ≤ 12) {no : List Int} {ss : List PySem.Str}
    (hp : no.Perm ((List.range 6).map fun (k : Nat) => (k : Int))) (hs : no.Pairwise (fun x y => turnV d low high * (RK a f).getD x.toNat 0 ≤ turnV d low high * (RK a f).getD y.toNat 0))
    (hp2 : ss.Perm ((List.range 6).map (txt d (stepsS low high a f)))) (hs2 : ss.Pairwise (fun x y => ¬ y.cps.toList < x.cps.toList)) :
    no.map (fun k => txt d (stepsS low high a f) k.toNat) = ss := by
  refine sorted_one ?_ ?_ hs2
  · have h1 := hp.map (fun k : Int => txt d (stepsS low high a f) k.toNat)
    rw [List.map_map] at h1
    exact h1.trans hp2.symm
  · rw [List.pairwise_map]
    refine hs.imp_of_mem fun {x y} hx hy h => ?_
    exact txt_le hd two ha hf (order_mem hp hx).2.2 (order_mem hp hy).2.2 h
end Mine
namespace Mine
theorem due_pos {x y : Int} (h : y < x) : dueV x y = 1 := by unfold dueV; rw [if_neg (by omega), if_pos h]
theorem due_neg {x y : Int} (h : x ≠ y) (h2 : ¬ y < x) : dueV x y = -1 := by unfold dueV; rw [if_neg h, if_neg h2]
theorem due_same {x y : Int} (h : x = y) : dueV x y = 0 := by unfold dueV; rw [if_pos h]
theorem tr_mulc {d : Int} {low high : PySem.Str} {c : Int} (h : -1 ≤ c ∧ c ≤ 1) : IntMulOk (turnV d low high) c := by
  have h1 : -1 ≤ turnV d low high ∧ turnV d low high ≤ 1 := by rcases turn_two d low high with e | e <;> rw [e] <;> decide
  generalize turnV d low high = x at *
  mul_fits
end Mine
end
section
open PySem PySem.W PySem.Calls PyProof.Rows PyProof.V PySem.Spec
set_option Elab.async false
set_option linter.all false
namespace Mine
set_option maxRecDepth 100000
set_option maxHeartbeats 8000000
section
variable {prog : Program} {w : World} {A : Around} {E : Value → Shared → Prop} {s : Shared}
/-- a range's numbers, taken out -/
theorem collect_range {R : List Value → Shared → Prop} {E' : Value → Shared → Prop} {r : Addr} {a b c : Int} {t u v : Tok} {n : Nat} (hh : A.handled = none) (hr : IsRange s.heap r a b c t u v) (hsmall : Builtin.Range.small a b c = true)
    (hn : Builtin.Range.rangeSize a b c = n) (hlen : n ≤ 2 ^ 24)
    (h : ∀ (h' : Heap) (tk : Nat) (acc : Array Value), (∀ b o, s.heap.get? b = some o → h'.get? b = some o) → ItemsOf (fun i v => ∃ t, v = .int (a + i * c) t) acc n → R acc.toList { s with heap := h', toks := tk }) :
    wpAny (model prog w) A (collect (.ref r)) R E' s := by
  have hlt : r < s.heap.objs.size := Heap.lt_size hr
  unfold collect
  refine wpAny_bind (wpAny_runValue (codeAny_builtin entry_proto_collect' ?_))
  rw [Around.under_plainId PySem.F.plain_proto_collect _]
  show wpAny _ A.in1 (newList [] >>= fun l => again (.builtin "list.__iadd__" ⟨[l, .ref r], []⟩)) _ _ s
  refine wpAny_bind (wpAny_newObj_type ?_)
  refine wpAny_pure ⟨plainId_quiet PySem.F.plain_list_iadd _, codeAny_builtin entry_list_iadd' ?_⟩
  rw [Around.under_plainId PySem.F.plain_list_iadd _]
  have hS₁ : (s.heap.push { cls := .type "list", data := .seq ([] : List Value).toArray }).get? s.heap.objs.size = some { cls := .type "list", data := .seq #[] } := Heap.get?_push_size _ rfl
  show wpAny _ A.in1 (Builtin.List.listExtendWith (.ref s.heap.objs.size) (.ref r) (.ref s.heap.objs.size)) _ _ _
  have key := wpAny_extend_range (prog := prog) (w := w) (A := A) (s := { s with heap := s.heap.push { cls := .type "list", data := .seq ([] : List Value).toArray } })
    (R := fun (q : Result) (s' : Shared) => ∃ (h' : Heap) (tk : Nat) (acc' : Array Value) (c' : Nat), q = .ok (.ret (.ref s.heap.objs.size)) ∧ s' = { s with heap := h', toks := tk } ∧
      (∀ b o, s.heap.get? b = some o → h'.get? b = some o) ∧ h'.get? s.heap.objs.size = some { cls := .type "list", dict := none, data := .seq acc' c', slots := #[] } ∧ ItemsOf (fun i v => ∃ t, v = .int (a + i * c) t) acc' n)
    hh (Heap.get?_push_of_some _ hr) hsmall hn hlen s.heap.objs.size (.ref s.heap.objs.size) 0 hS₁
    (fun h' tk acc' c' hk hS' hacc => ⟨h', tk, acc', c', rfl, rfl, fun b o e => hk b o (Nat.ne_of_lt (Heap.lt_size e)) (Heap.get?_push_of_some _ e), hS', hacc⟩)
  refine wpAny_mono key (fun fin s' x => ?_) fun e s' x => ?_
  · cases fin with
    | done f =>
      obtain ⟨h', tk, acc', c', e, rfl, hk, hS', hacc⟩ := x
      cases e
      show wpAny _ A (load s.heap.objs.size >>= _) _ _ _
      refine wpAny_bind (wpAny_load hS' ?_)
      exact wpAny_pure (h h' tk acc' hk hacc)
    | again c₁ =>
      refine ⟨x.1, codeAny_mono x.2 fun q s₂ y => ?_⟩
      obtain ⟨h', tk, acc', c', rfl, rfl, hk, hS', hacc⟩ := y
      show wpAny _ A (load s.heap.objs.size >>= _) _ _ _
      refine wpAny_bind (wpAny_load hS' ?_)
      exact wpAny_pure (h h' tk acc' hk hacc)
  · obtain ⟨_, _, _, _, e', _⟩ := x
    cases e'
end
section
variable {prog : Program} {w : World} {A : Around} {E : Value → Shared → Prop} {s : Shared} {h₀ : Heap} {L l : Addr} {m : Str → Option Value} {news : List (Addr × Obj)} {b : Bool} {vs : List Value} {Q : Value → Shared → Prop}
/-- sorted over a range, by a key of ints -/
theorem sorted_range {r : Addr} {hi : Int} {t u v : Tok} {n : Nat} {f : Value} {kw : List (PySem.Str × Value)} (g : Int → Int) (F : Fr h₀ L s.heap m) (N : News h₀ L s.heap news)
    (hh : A.in1.handled = none) (hr : IsRange s.heap r 0 hi 1 t u v) (hsmall : Builtin.Range.small 0 hi 1 = true) (hn : Builtin.Range.rangeSize 0 hi 1 = (n : Int)) (h64 : n < 64)
    (ha1 : argsOk "sorted" ⟨[.ref r], kw⟩) (ha2 : ∀ x, argsOk "list.sort" ⟨[.ref x], kw⟩) (ht : ∀ x, Builtin.«list.sort» ⟨[.ref x], kw⟩ = ksk_tree x f false)
    (turn : ∀ (k : Nat) (t : Tok) (h : Heap) (tk : Nat) (own : List (Addr × Obj)), k < n → Fr h₀ L h m → News h₀ L h (news ++ own) →
      wpAny (model prog w) A.in1.in1 (call f [.int (k : Int) t]) (KskEnd h₀ L m (news ++ own) (g (k : Int)) { s with heap := h, toks := tk }) (fun _ _ => False) { s with heap := h, toks := tk })
    (done : ∀ D vs' ns' c h' tk, Fr h₀ L h' m → News h₀ L h' ((D, PySem.W.listOf (List.toArray vs') c) :: news) → (∀ q ∈ news, q.1 < D) → IntsAre vs' ns' → ns'.Perm ((List.range n).map fun (k : Nat) => (k : Int)) →
      ns'.Pairwise (fun x y => g x ≤ g y) → Q (.ref D) { s with heap := h', toks := tk }) :
    wpAny (model prog w) A (call (.builtin "sorted") [.ref r] kw) Q E s := by
  refine call_function_entry_kw kind_sorted plain_sorted entry_sorted ha1 ?_
  unfold Builtin.«sorted»
  refine wpAny_bind (m := checkCount "sorted" 1 1 _) (wpAny_pure ?_)
  refine wpAny_bind (collect_range hh hr hsmall hn (by omega) fun h' tk acc hk hI => ?_)
  have F1 : Fr h₀ L h' m := F.keeps hk
  have N1 : News h₀ L h' news := N.grown hk
  have hlen : acc.toList.length = n := by rw [Array.length_toList]; exact hI.1
  have hints : IntsAre acc.toList ((List.range n).map fun (k : Nat) => (k : Int)) := by
    have := PySem.W.kll_ints acc.toList 0 n hlen fun j v hj => hI.2 j v (by rw [← hj, Array.getElem?_toList])
    rw [show ((List.range n).map fun (k : Nat) => (k : Int)) = rangeKs 0 n by unfold rangeKs; exact List.map_congr_left fun i _ => by simp]
    exact this
  have hL : L < h'.objs.size := F1.ns.lt
  refine wpAny_bind (wpAny_newList ?_ (by rw [sizeLine_eq]; omega))
  refine wpAny_bind (wpAny_holding (wpAny_call_entry_kw slot_list_sort ⟨_, Heap.get?_push_size _ rfl, rfl⟩ entry_list_sort ?body (ha2 _)))
  case body =>
    have ht' := ht h'.objs.size
    show wpAny (model prog w) A.in1.in1 (Builtin.«list.sort» ⟨[.ref h'.objs.size], kw⟩) _ _ _
    rw [ht']
    have keep : ∀ b o, h'.get? b = some o → (h'.push (seqObj "list" acc.toList.toArray 0)).get? b = some o := fun b o q => Heap.get?_push_of_some _ q
    refine ksk_sort (s := { s with heap := h'.push (seqObj "list" acc.toList.toArray 0), toks := tk }) (kz := ((List.range n).map fun (k : Nat) => (k : Int)).map g) (vs := acc.toList)
      (F1.kept keep) (N1.grown keep) (Heap.get?_push_size _ rfl) (Nat.ne_of_gt hL) (Heap.get?_none_of_le (Nat.le_trans F1.above (Nat.le_of_lt hL)))
      (fun p hp => Nat.ne_of_lt (Heap.lt_size (N1 p hp).1)) (by rw [List.length_map, List.length_map, List.length_range, hlen]) (by omega) (fun i v k hv hkz h2 tk2 own F2 N2 => ?_) fun h2 tk2 out c F2 N2 ko => ⟨_, rfl, ?_⟩
    · rw [List.getElem?_map, List.getElem?_map] at hkz
      have hi' : i < n := by
        have := (List.getElem?_eq_some_iff.mp hv).1
        omega
      rw [List.getElem?_range hi'] at hkz
      cases hkz
      obtain ⟨t9, e9⟩ := hints.get i (i : Int) (by rw [List.getElem?_map, List.getElem?_range hi']; rfl)
      rw [hv] at e9
      cases e9
      exact turn i t9 h2 tk2 own hi' F2 N2
    · obtain ⟨ps, hp, ho, hs⟩ := ko
      have hrel : ∀ p, p ∈ (((List.range n).map fun (k : Nat) => (k : Int)).map g).zip acc.toList → p.1 = g (numOf p.2) ∧ p.2 ∈ acc.toList := by
        rw [← hints.nums, List.map_map, List.zip_map_left]
        intro p hp
        obtain ⟨⟨u, v⟩, hq, rfl⟩ := List.mem_map.mp hp
        have h1 : u = v ∧ u ∈ acc.toList := mem_zip_self hq
        refine ⟨?_, ?_⟩
        · show g (numOf u) = g (numOf v)
          rw [h1.1]
        · show v ∈ acc.toList
          rw [← h1.1]
          exact h1.2
      have hI2 : IntsAre (ps.map Prod.snd) ((ps.map Prod.snd).map numOf) := intsAre_map _ fun v hv => by
        obtain ⟨p, hp', rfl⟩ := List.mem_map.mp hv
        exact hints.all _ (hrel p (hp.mem_iff.mp hp')).2
      have hP : ((ps.map Prod.snd).map numOf).Perm ((List.range n).map fun (k : Nat) => (k : Int)) := by
        have h1 := (hp.map Prod.snd).map numOf
        rw [List.map_snd_zip (by rw [List.length_map, List.length_map, List.length_range, hlen]; exact Nat.le_refl _), hints.nums] at h1
        exact h1
      have hO : ((ps.map Prod.snd).map numOf).Pairwise (fun x y => g x ≤ g y) := by
        rw [List.pairwise_map, List.pairwise_map]
        refine hs.imp_of_mem fun {p q} hp' hq' hr => ?_
        have hr' : p.1 ≤ q.1 := hr
        rw [(hrel p (hp.mem_iff.mp hp')).1, (hrel q (hp.mem_iff.mp hq')).1] at hr'
        exact hr'
      rw [← ho] at hI2 hP hO
      refine wpAny_pure ⟨_, rfl, done _ out.toList _ c h2 tk2 F2 N2 (fun q hq => Heap.lt_size (N1 q hq).1) hI2 hP hO⟩
end
/-- keys read from values -/
noncomputable def KOf (κ : KeyKind) (vs : List Value) (ks : List κ.α) : Prop := vs.map κ.keyOf = ks.map some
theorem KOf.length {κ : KeyKind} {vs : List Value} {ks : List κ.α} (h : KOf κ vs ks) : vs.length = ks.length := by
  have := congrArg List.length h
  simpa using this
theorem KOf.snoc {κ : KeyKind} {vs : List Value} {ks : List κ.α} {v : Value} {k : κ.α} (h : KOf κ vs ks) (hv : κ.keyOf v = some k) : KOf κ (vs ++ [v]) (ks ++ [k]) := by
  unfold KOf at *
  rw [List.map_append, List.map_append, h, List.map_singleton, List.map_singleton, hv]
noncomputable def ko (κ : KeyKind) (v : Value) : κ.α := (κ.keyOf v).getD κ.dflt
theorem KOf.kos {κ : KeyKind} {vs : List Value} {ks : List κ.α} (h : KOf κ vs ks) : vs.map (ko κ) = ks := by
  have e : vs.map (ko κ) = (vs.map κ.keyOf).map (fun o => o.getD κ.dflt) := by rw [List.map_map]; rfl
  rw [e, h, List.map_map]
  exact List.map_id' ks
theorem KOf.all {κ : KeyKind} {vs : List Value} {ks : List κ.α} (h : KOf κ vs ks) : ∀ v ∈ vs, ∃ a, κ.keyOf v = some a := by
  intro v hv
  have h1 : κ.keyOf v ∈ vs.map κ.keyOf := List.mem_map.mpr ⟨v, hv, rfl⟩
  rw [h] at h1
  obtain ⟨a, _, e⟩ := List.mem_map.mp h1
  exact ⟨a, e.symm⟩
noncomputable def SkEnd (κ : KeyKind) (h₀ : Heap) (L : Addr) (m : PySem.Str → Option Value) (need : List (Addr × Obj)) (k : κ.α) (s₁ : Shared) (v : Value) (s₂ : Shared) : Prop :=
  ∃ h' tk, s₂ = { s₁ with heap := h', toks := tk } ∧ κ.keyOf v = some k ∧ Fr h₀ L h' m ∧ News h₀ L h' need
noncomputable def SkOut (κ : KeyKind) (kz : List κ.α) (vs out : List Value) : Prop :=
  ∃ ps : List (κ.α × Value), ps.Perm (kz.zip vs) ∧ out = ps.map Prod.snd ∧ ps.Pairwise (fun p q => κ.kle p.1 q.1)
theorem KK_at {κ : KeyKind} {xs : Array Keyed} {i : Nat} (hi : i < xs.size) : KK κ xs i = ko κ xs[i].1 := by unfold KK ko; rw [getElem?_pos xs i hi]
theorem sk_out {κ : KeyKind} {keys : Array Value} {vs : List Value} {kz : List κ.α} (hk : KOf κ keys.toList kz) {xs : Array Keyed} (hp : xs.Perm (keys.zip vs.toArray)) (hs : SortedToK κ xs xs.size) :
    SkOut κ kz vs (xs.map (·.2)).toList := by
  have hl : xs.toList.Perm (keys.toList.zip vs) := by rw [← ksk_zip]; exact Array.perm_iff_toList_perm.mp hp
  have h1 : (xs.toList.map (fun p : Keyed => (ko κ p.1, p.2))).Perm (kz.zip vs) := by
    have e2 : (keys.toList.zip vs).map (fun p : Keyed => (ko κ p.1, p.2)) = kz.zip vs := by
      rw [← hk.kos, List.zip_map_left]
      exact List.map_congr_left fun ⟨x, y⟩ _ => rfl
    rw [← e2]
    exact hl.map _
  have h2 : (xs.map (·.2)).toList = (xs.toList.map (fun p : Keyed => (ko κ p.1, p.2))).map Prod.snd := by
    rw [Array.toList_map, List.map_map]
    rfl
  have h3 : (xs.toList.map (fun p : Keyed => (ko κ p.1, p.2))).Pairwise (fun p q => κ.kle p.1 q.1) := by
    rw [List.pairwise_iff_getElem]
    intro i j hi hj hij
    have hi' : i < xs.size := by simpa using hi
    have hj' : j < xs.size := by simpa using hj
    have q := hs i j (Nat.le_of_lt hij) hj'
    rw [KK_at hi', KK_at hj'] at q
    simpa using q
  exact ⟨_, h1, h2, h3⟩
theorem sk_keysOf {κ : KeyKind} {keys : Array Value} {vs : List Value} {kz : List κ.α} (hk : KOf κ keys.toList kz) : KeysOf κ (keys.zip vs.toArray) := by
  intro p hp
  rw [ksk_zip] at hp
  obtain ⟨x, y⟩ := p
  exact hk.all _ (List.of_mem_zip hp).1
section
variable {κ : KeyKind} {prog : Program} {w : World} {A : Around} {E : Value → Shared → Prop} {s : Shared} {h₀ : Heap} {L : Addr} {m : PySem.Str → Option Value} {news : List (Addr × Obj)} {a kS : Addr} {vs : List Value} {kz : List κ.α} {keys : Array Value} {e e1 : Nat} {P : PySem.Fin → Shared → Prop}
theorem sk_tail_ {st : SortSt} (F : Fr h₀ L s.heap m) (N : News h₀ L s.heap (news ++ [(kS, seqObj "list" keys e), (a, seqObj "list" #[] e1)])) (hka : kS ≠ a) (hnk : ∀ p ∈ news, p.1 ≠ kS) (hna : ∀ p ∈ news, p.1 ≠ a)
    (hk : KOf κ keys.toList kz) (hlen : kz.length = vs.length) (h64 : vs.length < 64) (hp : (arrOf st).Perm (keys.zip vs.toArray)) (hs : SortedToK κ (arrOf st) (arrOf st).size) (hfl : failedOf st = none)
    (h : ∀ h' tk out c, Fr h₀ L h' m → News h₀ L h' ((a, seqObj "list" out c) :: news) → SkOut κ kz vs out.toList → P (.done (.ret .none)) { s with heap := h', toks := tk }) :
    wpAny (model prog w) A (ksk_tail a false e1 (.ref kS) st) P E s := by
  have nk := N (kS, seqObj "list" keys e) (List.mem_append_right _ (.head _))
  have na := N (a, seqObj "list" #[] e1) (List.mem_append_right _ (.tail _ (.head _)))
  have Nn : News h₀ L s.heap news := fun p hp => N p (List.mem_append_left _ hp)
  have hsz : keys.size = vs.length := by
    have h1 := hk.length
    rw [Array.length_toList] at h1
    omega
  have hsz2 : (arrOf st).size = vs.length := by rw [hp.size_eq, Array.size_zip, hsz, List.size_toArray, Nat.min_self]
  have hout : ((arrOf st).map (·.2)).size = vs.length := by
    simp only [Array.size_map]; exact hsz2
  have s1 := Heap.SameBut.update s.heap kS (Obj.mapSeq fun _ => (#[] : Array Value))
  have na1 : (s.heap.update kS (Obj.mapSeq fun _ => (#[] : Array Value))).get? a = some (seqObj "list" #[] e1) := (s1.2 a hka.symm).trans na.1
  have s2 := Heap.SameBut.update (s.heap.update kS (Obj.mapSeq fun _ => (#[] : Array Value))) a (Obj.mapSeq fun _ => (arrOf st).map (·.2))
  obtain ⟨c2, hc2⟩ : ∃ c2, ((s.heap.update kS (Obj.mapSeq fun _ => (#[] : Array Value))).update a (Obj.mapSeq fun _ => (arrOf st).map (·.2))).get? a = some (seqObj "list" ((arrOf st).map (·.2)) c2) :=
    ⟨_, get?_update_seq na1 fun _ => (arrOf st).map (·.2)⟩
  have N2 := ksk_news (ksk_news Nn s1 hnk) s2 hna
  unfold ksk_tail
  try dsimp only
  refine wpAny_bind (listUpdate_at nk.1 rfl ?_ (by rw [hsz, sizeLine_eq]; omega) (Nat.zero_le _))
  refine wpAny_bind (wpAny_letGo ?_)
  refine wpAny_bind (seqEpoch_at na1 rfl ?_)
  simp only [Bool.false_eq_true, if_false]
  refine wpAny_bind (listUpdate_at na1 rfl ?_ (Nat.zero_le _) (Nat.le_trans (Nat.le_of_eq hout) (by rw [sizeLine_eq]; omega)))
  rw [hfl]
  simp only [bne_self_eq_false, Bool.false_eq_true, if_false]
  refine wpAny_pure (h _ _ _ c2 (ksk_fr (ksk_fr F s1 nk.2.1 nk.2.2) s2 na.2.1 na.2.2) (fun p hp => ?_) (sk_out hk hp hs))
  rcases List.mem_cons.mp hp with rfl | hp
  · exact ⟨hc2, na.2⟩
  · exact N2 p hp
theorem sk_end_ (hO : κ.OneLt) (hkind : ∀ keys : Array Value, KOf κ keys.toList kz → 2 ≤ keys.size → keyKind' keys = pure oneType')
    (F : Fr h₀ L s.heap m) (N : News h₀ L s.heap (news ++ [(kS, seqObj "list" keys e), (a, seqObj "list" #[] e1)])) (hka : kS ≠ a) (hnk : ∀ p ∈ news, p.1 ≠ kS) (hna : ∀ p ∈ news, p.1 ≠ a)
    (hk : KOf κ keys.toList kz) (hlen : kz.length = vs.length) (h2 : 2 ≤ vs.length) (h64 : vs.length < 64)
    (h : ∀ h' tk out c, Fr h₀ L h' m → News h₀ L h' ((a, seqObj "list" out c) :: news) → SkOut κ kz vs out.toList → P (.done (.ret .none)) { s with heap := h', toks := tk }) :
    wpAny (model prog w) A (ksk_end a false vs.toArray e1 (.ref kS) keys) P E s := by
  have hsz : keys.size = vs.length := by
    have h1 := hk.length
    rw [Array.length_toList] at h1
    omega
  have hzs : (keys.zip vs.toArray).size = vs.length := by rw [Array.size_zip, hsz, List.size_toArray, Nat.min_self]
  unfold ksk_end
  try dsimp only
  simp only [Bool.false_eq_true, if_false]
  rw [if_neg (by rw [List.size_toArray]; omega), if_neg (by rw [List.size_toArray]; omega)]
  rw [hkind keys hk (by rw [hsz]; omega)]
  refine wpAny_bind (wpAny_pure ?_)
  refine wpAny_bind (wpAny_mono (wpS_sortRunsK (κ := κ) (a₀ := keys.zip vs.toArray) (st := SortSt.mk' oneType' (keys.zip vs.toArray) #[] 7 none)
    (Q := fun _ st' => (arrOf st').Perm (keys.zip vs.toArray) ∧ failedOf st' = none ∧ SortedToK κ (arrOf st') (keys.zip vs.toArray).size)
    hO (sk_keysOf hk) ⟨Array.Perm.refl _, rfl, rfl, rfl⟩ (by rw [hzs]; omega) (by rw [hzs]; exact h64) fun st' a1 a2 a3 => ⟨a1, a2, a3⟩) ?_ fun _ _ e => e)
  rintro ⟨⟨⟩, st'⟩ s' ⟨rfl, hp, hf, hs⟩
  try dsimp only
  exact sk_tail_ F N hka hnk hna hk hlen h64 hp (by rw [hp.size_eq]; exact hs) hf h
theorem sk_rest_ {f : Value} (hO : κ.OneLt) (hkind : ∀ keys : Array Value, KOf κ keys.toList kz → 2 ≤ keys.size → keyKind' keys = pure oneType')
    (F : Fr h₀ L s.heap m) (N : News h₀ L s.heap (news ++ [(kS, seqObj "list" #[] 0), (a, seqObj "list" #[] e1)])) (hka : kS ≠ a) (hnk : ∀ p ∈ news, p.1 ≠ kS) (hna : ∀ p ∈ news, p.1 ≠ a)
    (hlen : kz.length = vs.length) (h2 : 2 ≤ vs.length) (h64 : vs.length < 64)
    (turn : ∀ (i : Nat) (v : Value) (k : κ.α), vs[i]? = some v → kz[i]? = some k → ∀ (h : Heap) (tk : Nat) (own : List (Addr × Obj)), Fr h₀ L h m → News h₀ L h (news ++ own) →
      wpAny (model prog w) A (call f [v]) (SkEnd κ h₀ L m (news ++ own) k { s with heap := h, toks := tk }) (fun _ _ => False) { s with heap := h, toks := tk })
    (h : ∀ h' tk out c, Fr h₀ L h' m → News h₀ L h' ((a, seqObj "list" out c) :: news) → SkOut κ kz vs out.toList → P (.done (.ret .none)) { s with heap := h', toks := tk }) :
    wpAny (model prog w) A (ksk_rest a f false vs.toArray e1 (.ref kS)) P E s := by
  unfold ksk_rest
  refine wpAny_bind (wpAny_rule ?_)
  first
    | rw [List.forIn_toArray]
    | (rw [← Array.forIn_toList]; simp only [List.toList_toArray])
    | rw [← Array.forIn_toList]
  refine wpAny_bind (ksk_fold (fun i s' => ∃ h' tk kA e, s' = { s with heap := h', toks := tk } ∧ Fr h₀ L h' m ∧ News h₀ L h' (news ++ [(kS, seqObj "list" kA e), (a, seqObj "list" #[] e1)]) ∧ KOf κ kA.toList (kz.take i)) vs 0 s
    ⟨s.heap, s.toks, #[], 0, rfl, F, N, by simp [KOf]⟩ ?step ?done)
  case step =>
    rintro j x s' hx ⟨h', tk, kA, e, rfl, F', N', hk⟩
    simp only [Nat.zero_add] at hk ⊢
    have hj : j < vs.length := (List.getElem?_eq_some_iff.mp hx).1
    obtain ⟨k, hkj⟩ : ∃ k, kz[j]? = some k := ⟨_, List.getElem?_eq_getElem (by omega)⟩
    have hz : kA.size ≤ vs.length := by
      have h1 := hk.length
      rw [Array.length_toList, List.length_take] at h1
      omega
    refine wpAny_bind (wpAny_attempt (wpAny_mono (turn j x k hx hkj h' tk _ F' N') (fun v s'' he => ?_) fun _ _ hF => hF.elim))
    obtain ⟨g, tk2, rfl, hv2, F2, N2⟩ := he
    try dsimp only
    have nk := N2 (kS, seqObj "list" kA e) (List.mem_append_right _ (.head _))
    have na := N2 (a, seqObj "list" #[] e1) (List.mem_append_right _ (.tail _ (.head _)))
    have s1 := Heap.SameBut.update g kS (Obj.mapSeq (·.push v))
    obtain ⟨c2, hc2⟩ : ∃ c2, (g.update kS (Obj.mapSeq (·.push v))).get? kS = some (seqObj "list" (kA.push v) c2) := ⟨_, get?_update_seq nk.1 (·.push v)⟩
    have ek : kz.take (j + 1) = kz.take j ++ [k] := by rw [List.take_add_one, hkj]; simp
    have ea : (kA.push v).toList = kA.toList ++ [v] := by simp
    refine wpAny_bind (listUpdate_at nk.1 rfl ?_ (by rw [sizeLine_eq]; omega) (Nat.le_trans (Nat.le_of_eq (Array.size_push ..)) (by rw [sizeLine_eq]; omega)))
    refine wpAny_pure ⟨rfl, _, _, kA.push v, c2, rfl, ksk_fr F2 s1 nk.2.1 nk.2.2, fun p hp => ?_, by rw [ea, ek]; exact hk.snoc hv2⟩
    rcases List.mem_append.mp hp with hp | hp
    · exact ksk_news (fun q hq => N2 q (List.mem_append_left _ hq)) s1 hnk p hp
    · rcases List.mem_cons.mp hp with rfl | hp
      · exact ⟨hc2, nk.2⟩
      · rw [List.mem_singleton.mp hp]
        exact ⟨(s1.2 a hka.symm).trans na.1, na.2⟩
  case done =>
    rintro s' ⟨h', tk, kA, e, rfl, F', N', hk⟩
    have hk' : KOf κ kA.toList kz := by
      have e3 : kz.take (0 + vs.length) = kz := List.take_of_length_le (by omega)
      rw [e3] at hk
      exact hk
    have nk := N' (kS, seqObj "list" kA e) (List.mem_append_right _ (.head _))
    try dsimp only
    refine wpAny_bind (listItems_at nk.1 rfl ?_)
    exact sk_end_ hO hkind F' N' hka hnk hna hk' hlen h2 h64 fun h3 tk3 out c F3 N3 k3 => h h3 tk3 out c F3 N3 k3
theorem sk_sort {f : Value} {n : Nat} (hO : κ.OneLt) (hkind : ∀ keys : Array Value, KOf κ keys.toList kz → 2 ≤ keys.size → keyKind' keys = pure oneType')
    (F : Fr h₀ L s.heap m) (N : News h₀ L s.heap news) (ho : s.heap.get? a = some (seqObj "list" vs.toArray n)) (haL : a ≠ L) (ha0 : h₀.get? a = none) (hna : ∀ p ∈ news, p.1 ≠ a)
    (hlen : kz.length = vs.length) (h2 : 2 ≤ vs.length) (h64 : vs.length < 64)
    (turn : ∀ (i : Nat) (v : Value) (k : κ.α), vs[i]? = some v → kz[i]? = some k → ∀ (h : Heap) (tk : Nat) (own : List (Addr × Obj)), Fr h₀ L h m → News h₀ L h (news ++ own) →
      wpAny (model prog w) A (call f [v]) (SkEnd κ h₀ L m (news ++ own) k { s with heap := h, toks := tk }) (fun _ _ => False) { s with heap := h, toks := tk })
    (h : ∀ h' tk out c, Fr h₀ L h' m → News h₀ L h' ((a, seqObj "list" out c) :: news) → SkOut κ kz vs out.toList → P (.done (.ret .none)) { s with heap := h', toks := tk }) :
    wpAny (model prog w) A (ksk_tree a f false) P E s := by
  have ha : a < s.heap.objs.size := Heap.lt_size ho
  have s1 := Heap.SameBut.update s.heap a (Obj.mapSeq fun _ => (#[] : Array Value))
  obtain ⟨e1, ho1⟩ : ∃ e1, (s.heap.update a (Obj.mapSeq fun _ => (#[] : Array Value))).get? a = some (seqObj "list" #[] e1) := ⟨_, get?_update_seq ho fun _ => #[]⟩
  have F1 := ksk_fr F s1 haL ha0
  have N1 := ksk_news N s1 hna
  have hkS : ((s.heap.update a (Obj.mapSeq fun _ => (#[] : Array Value))).push (seqObj "tuple" vs.toArray 0)).objs.size = s.heap.objs.size + 1 := by rw [size_push', Heap.size_update]
  have hLk : L < ((s.heap.update a (Obj.mapSeq fun _ => (#[] : Array Value))).push (seqObj "tuple" vs.toArray 0)).objs.size := (F1.push _).ns.lt
  unfold ksk_tree
  refine wpAny_bind (listItems_at ho rfl ?_)
  refine wpAny_bind (listUpdate_at ho rfl ?_ (by rw [List.size_toArray, sizeLine_eq]; omega) (Nat.zero_le _))
  refine wpAny_bind (seqEpoch_at ho1 rfl ?_)
  refine wpAny_bind (wpAny_newTuple ?_ (by show vs.length ≤ _; rw [sizeLine_eq]; omega))
  refine wpAny_bind (wpAny_newList ?_ (Nat.zero_le _))
  refine wpAny_holding ?_
  refine sk_rest_ (s := { s with heap := ((s.heap.update a (Obj.mapSeq fun _ => (#[] : Array Value))).push (seqObj "tuple" vs.toArray 0)).push (seqObj "list" #[] 0) }) (kS := ((s.heap.update a (Obj.mapSeq fun _ => (#[] : Array Value))).push (seqObj "tuple" vs.toArray 0)).objs.size)
    hO hkind ((F1.push _).push _) (fun p hp => ?_) (by rw [hkS]; exact Nat.ne_of_gt (Nat.lt_succ_of_lt ha)) (fun p hp => by rw [hkS]; exact Nat.ne_of_lt (Nat.lt_succ_of_lt (Heap.lt_size (N p hp).1))) hna hlen h2 h64 turn h
  rcases List.mem_append.mp hp with hp | hp
  · exact ⟨Heap.get?_push_of_some _ (Heap.get?_push_of_some _ (N1 p hp).1), (N1 p hp).2⟩
  · rcases List.mem_cons.mp hp with rfl | hp
    · exact ⟨Heap.get?_push_size _ rfl, Nat.ne_of_gt hLk, Heap.get?_none_of_le (Nat.le_trans F.above (Nat.le_of_lt hLk))⟩
    · rw [List.mem_singleton.mp hp]
      exact ⟨Heap.get?_push_of_some _ (Heap.get?_push_of_some _ ho1), haL, ha0⟩
/-- sorted over a list, by a key of any one kind -/
theorem sk_sorted {l : Addr} {f : Value} {kw : List (PySem.Str × Value)} {Q : Value → Shared → Prop} (hO : κ.OneLt) (hkind : ∀ keys : Array Value, KOf κ keys.toList kz → 2 ≤ keys.size → keyKind' keys = pure oneType')
    (F : Fr h₀ L s.heap m) (N : News h₀ L s.heap news) (hl : s.heap.IsList l vs.toArray) (hlen : kz.length = vs.length) (h2 : 2 ≤ vs.length) (h64 : vs.length < 64)
    (ha1 : argsOk "sorted" ⟨[.ref l], kw⟩) (ha2 : ∀ x, argsOk "list.sort" ⟨[.ref x], kw⟩) (ht : ∀ x, Builtin.«list.sort» ⟨[.ref x], kw⟩ = ksk_tree x f false)
    (turn : ∀ (i : Nat) (v : Value) (k : κ.α), vs[i]? = some v → kz[i]? = some k → ∀ (h : Heap) (tk : Nat) (own : List (Addr × Obj)), Fr h₀ L h m → News h₀ L h (news ++ own) →
      wpAny (model prog w) A.in1.in1 (call f [v]) (SkEnd κ h₀ L m (news ++ own) k { s with heap := h, toks := tk }) (fun _ _ => False) { s with heap := h, toks := tk })
    (h : ∀ D h' tk out c, Fr h₀ L h' m → News h₀ L h' ((D, seqObj "list" out c) :: news) → (∀ q ∈ news, q.1 < D) → SkOut κ kz vs out.toList → Q (.ref D) { s with heap := h', toks := tk }) :
    wpAny (model prog w) A (call (.builtin "sorted") [.ref l] kw) Q E s := by
  refine call_function_entry_kw kind_sorted plain_sorted entry_sorted ha1 ?_
  unfold Builtin.«sorted»
  refine wpAny_bind (m := checkCount "sorted" 1 1 _) (wpAny_pure ?_)
  refine wpAny_bind (collect_list hl ?_ (by rw [sizeLine_eq]; omega))
  refine wpAny_bind (wpAny_newList ?_ (by rw [sizeLine_eq]; omega))
  have hsz : ((s.heap.push (seqObj "list" #[] 0)).update s.heap.objs.size (Obj.mapSeq (· ++ vs.toArray))).objs.size = s.heap.objs.size + 1 := by
    rw [Heap.size_update, size_push']
  have hoL : (((s.heap.push (seqObj "list" #[] 0)).update s.heap.objs.size (Obj.mapSeq (· ++ vs.toArray))).push (seqObj "list" vs.toArray 0)).get? (s.heap.objs.size + 1) = some (seqObj "list" vs.toArray 0) := by
    rw [← hsz]; exact Heap.get?_push_size _ rfl
  have keep : ∀ b o, s.heap.get? b = some o → (((s.heap.push (seqObj "list" #[] 0)).update s.heap.objs.size (Obj.mapSeq (· ++ vs.toArray))).push (seqObj "list" vs.toArray 0)).get? b = some o := fun b o q => by
    have hlt : b < s.heap.objs.size := Heap.lt_size q
    rw [Heap.get?_push_ne _ _ _ (by rw [hsz]; exact Nat.ne_of_lt (Nat.lt_succ_of_lt hlt)), Heap.get?_update_ne _ _ _ _ (Nat.ne_of_lt hlt), Heap.get?_push_ne _ _ _ (Nat.ne_of_lt hlt)]
    exact q
  have hL : L < s.heap.objs.size := F.ns.lt
  show wpAny _ _ _ _ _ { s with heap := ((s.heap.push (seqObj "list" #[] 0)).update s.heap.objs.size (Obj.mapSeq (· ++ vs.toArray))).push (seqObj "list" vs.toArray 0) }
  rw [hsz]
  refine wpAny_bind (wpAny_holding (wpAny_call_entry_kw slot_list_sort ⟨_, hoL, rfl⟩ entry_list_sort ?body (ha2 _)))
  case body =>
    have ht' := ht (s.heap.objs.size + 1)
    show wpAny (model prog w) A.in1.in1 (Builtin.«list.sort» ⟨[.ref (s.heap.objs.size + 1)], kw⟩) _ _ _
    rw [ht']
    refine sk_sort (s := { s with heap := ((s.heap.push (seqObj "list" #[] 0)).update s.heap.objs.size (Obj.mapSeq (· ++ vs.toArray))).push (seqObj "list" vs.toArray 0) })
      hO hkind (F.kept keep) (N.grown keep) hoL (Nat.ne_of_gt (Nat.lt_succ_of_lt hL)) (Heap.get?_none_of_le (Nat.le_trans F.above (Nat.le_succ_of_le (Nat.le_of_lt hL))))
      (fun p hp => Nat.ne_of_lt (Nat.lt_succ_of_lt (Heap.lt_size (N p hp).1))) hlen h2 h64 turn fun h' tk out c F' N' k' => ⟨_, rfl, ?_⟩
    exact wpAny_pure ⟨_, rfl, h _ h' tk out c F' N' (fun q hq => Nat.lt_succ_of_lt (Heap.lt_size (N q hq).1)) k'⟩
end
theorem kof_strs : ∀ {vs : List Value} {ks : List (List Nat)}, KOf PyProof.Rows.strKind vs ks → ∃ ss, StrsAre vs ss
  | [], _, _ => ⟨[], .nil⟩
  | v :: vs, [], h => by simp [KOf] at h
  | v :: vs, k :: ks, h => by
    have h1 : PyProof.Rows.strKind.keyOf v = some k ∧ vs.map PyProof.Rows.strKind.keyOf = ks.map some := by
      have h' : PyProof.Rows.strKind.keyOf v :: vs.map PyProof.Rows.strKind.keyOf = some k :: ks.map some := h
      exact List.cons.inj h'
    obtain ⟨ss, hs⟩ := kof_strs (ks := ks) h1.2
    cases v <;> simp only [PyProof.Rows.strKind, reduceCtorEq, false_and] at h1
    exact ⟨_, .cons _ _ hs⟩
theorem kind_strs {keys : Array Value} {kz : List (List Nat)} (hk : KOf PyProof.Rows.strKind keys.toList kz) (h2 : 2 ≤ keys.size) : keyKind' keys = pure oneType' := by
  obtain ⟨ss, hS⟩ := kof_strs hk
  obtain ⟨v₁, v₂, rest, e⟩ : ∃ v₁ v₂ rest, keys.toList = v₁ :: v₂ :: rest := by
    have hl : 2 ≤ keys.toList.length := by rw [Array.length_toList]; exact h2
    cases q : keys.toList with
    | nil => rw [q] at hl; simp at hl
    | cons v₁ r =>
      cases r with
      | nil => rw [q] at hl; simp at hl
      | cons v₂ rest => exact ⟨v₁, v₂, rest, rfl⟩
  have ek : keys = (v₁ :: v₂ :: rest).toArray := by rw [← e, Array.toArray_toList]
  rw [e] at hS
  rw [ek]
  exact keyKind_strs hS
section
variable {prog : Program} {w : World} {A : Around} {E : Value → Shared → Prop} {s : Shared} {h₀ : Heap} {L l : Addr} {m : PySem.Str → Option Value} {news : List (Addr × Obj)} {vs : List Value} {Q : Value → Shared → Prop}
/-- sorted over a list of texts, by a key that gives the text back -/
theorem sorted_same {ss : List PySem.Str} {f : Value} {kw : List (PySem.Str × Value)} (F : Fr h₀ L s.heap m) (N : News h₀ L s.heap news) (hl : s.heap.IsList l vs.toArray) (hi : StrsAre vs ss) (h2 : 2 ≤ ss.length) (h64 : ss.length < 64)
    (ha1 : argsOk "sorted" ⟨[.ref l], kw⟩) (ha2 : ∀ x, argsOk "list.sort" ⟨[.ref x], kw⟩) (ht : ∀ x, Builtin.«list.sort» ⟨[.ref x], kw⟩ = ksk_tree x f false)
    (turn : ∀ (x : PySem.Str) (t : Tok) (h : Heap) (tk : Nat) (own : List (Addr × Obj)), x ∈ ss → Fr h₀ L h m → News h₀ L h (news ++ own) →
      wpAny (model prog w) A.in1.in1 (call f [.str x t]) (SkEnd PyProof.Rows.strKind h₀ L m (news ++ own) x.cps.toList { s with heap := h, toks := tk }) (fun _ _ => False) { s with heap := h, toks := tk })
    (done : ∀ D vs' ss' c h' tk, Fr h₀ L h' m → News h₀ L h' ((D, PySem.W.listOf (List.toArray vs') c) :: news) → (∀ q ∈ news, q.1 < D) → StrsAre vs' ss' → ss'.Perm ss →
      ss'.Pairwise (fun x y => ¬ y.cps.toList < x.cps.toList) → Q (.ref D) { s with heap := h', toks := tk }) :
    wpAny (model prog w) A (call (.builtin "sorted") [.ref l] kw) Q E s := by
  have hlen := hi.len_eq
  refine sk_sorted (κ := PyProof.Rows.strKind) (kz := ss.map fun x => x.cps.toList) strKind_oneLt (fun keys hk h2 => kind_strs hk h2) F N hl (by rw [List.length_map, hlen]) (by omega) (by omega) ha1 ha2 ht (fun i v k hv hk h tk own F' N' => ?_) fun D h' tk out c F' N' l1 ko => ?_
  · rw [List.getElem?_map] at hk
    cases q : ss[i]? with
    | none => rw [q] at hk; simp at hk
    | some x =>
      rw [q] at hk
      have hk' : some x.cps.toList = some k := hk
      cases hk'
      obtain ⟨t, ht'⟩ := strs_get hi q
      rw [ht'] at hv
      cases hv
      exact turn x t h tk own (List.mem_of_getElem? q) F' N'
  · obtain ⟨ps, hp, ho, hs⟩ := ko
    have hrel : ∀ p, p ∈ (ss.map fun x => x.cps.toList).zip vs → p.1 = (strOf p.2).cps.toList ∧ p.2 ∈ vs := by
      rw [← hi.strs, List.map_map, List.zip_map_left]
      intro p hp
      obtain ⟨⟨u, v⟩, hq, rfl⟩ := List.mem_map.mp hp
      have h1 : u = v ∧ u ∈ vs := mem_zip_self hq
      refine ⟨?_, ?_⟩
      · show (strOf u).cps.toList = (strOf v).cps.toList
        rw [h1.1]
      · show v ∈ vs
        rw [← h1.1]
        exact h1.2
    have hI : StrsAre (ps.map Prod.snd) ((ps.map Prod.snd).map strOf) := strsAre_map _ fun v hv => by
      obtain ⟨p, hp', rfl⟩ := List.mem_map.mp hv
      exact hi.all _ (hrel p (hp.mem_iff.mp hp')).2
    have hP : ((ps.map Prod.snd).map strOf).Perm ss := by
      have h1 := (hp.map Prod.snd).map strOf
      rw [List.map_snd_zip (by rw [List.length_map]; omega), hi.strs] at h1
      exact h1
    have hO : ((ps.map Prod.snd).map strOf).Pairwise (fun x y => ¬ y.cps.toList < x.cps.toList) := by
      rw [List.pairwise_map, List.pairwise_map]
      refine hs.imp_of_mem fun {p q} hp' hq' hr => ?_
      have hr' : decide (q.1 < p.1) = false := hr
      rw [(hrel p (hp.mem_iff.mp hp')).1, (hrel q (hp.mem_iff.mp hq')).1] at hr'
      simpa using hr'
    rw [← ho] at hI hP hO
    exact done D out.toList _ c h' tk F' N' l1 hI hP hO
end
end Mine
end
section
open PySem PySem.W PySem.Calls PyProof.Rows PyProof.V
set_option Elab.async false
set_option linter.all false
namespace Mine
set_option maxRecDepth 100000
set_option maxHeartbeats 8000000
theorem kc_nine {cm : PySem.Str → Option Value} {n₁ n₂ n₃ n₄ n₅ n₆ n₇ n₈ n₉ : PySem.Str} {c₁ c₂ c₃ c₄ c₅ c₆ c₇ c₈ c₉ : Addr} {cells : List (Addr × Obj)} (x : CellsAre cm [(n₁, c₁), (n₂, c₂), (n₃, c₃), (n₄, c₄), (n₅, c₅), (n₆, c₆), (n₇, c₇), (n₈, c₈), (n₉, c₉)] cells) :
    ∃ o₁ o₂ o₃ o₄ o₅ o₆ o₇ o₈ o₉, cells = [(c₁, o₁), (c₂, o₂), (c₃, o₃), (c₄, o₄), (c₅, o₅), (c₆, o₆), (c₇, o₇), (c₈, o₈), (c₉, o₉)] ∧ o₁.data = .cell (cm n₁) ∧ o₂.data = .cell (cm n₂) ∧ o₃.data = .cell (cm n₃) ∧ o₄.data = .cell (cm n₄) ∧ o₅.data = .cell (cm n₅) ∧ o₆.data = .cell (cm n₆) ∧ o₇.data = .cell (cm n₇) ∧ o₈.data = .cell (cm n₈) ∧ o₉.data = .cell (cm n₉) := by
  cases x with | cons h r => obtain ⟨o₂, o₃, o₄, o₅, o₆, o₇, o₈, o₉, rfl, h₂, h₃, h₄, h₅, h₆, h₇, h₈, h₉⟩ := kc_eight r; exact ⟨_, o₂, o₃, o₄, o₅, o₆, o₇, o₈, o₉, rfl, h, h₂, h₃, h₄, h₅, h₆, h₇, h₈, h₉⟩
theorem kc_ten {cm : PySem.Str → Option Value} {n₀ n₁ n₂ n₃ n₄ n₅ n₆ n₇ n₈ n₉ : PySem.Str} {c₀ c₁ c₂ c₃ c₄ c₅ c₆ c₇ c₈ c₉ : Addr} {cells : List (Addr × Obj)} (x : CellsAre cm [(n₀, c₀), (n₁, c₁), (n₂, c₂), (n₃, c₃), (n₄, c₄), (n₅, c₅), (n₆, c₆), (n₇, c₇), (n₈, c₈), (n₉, c₉)] cells) :
    ∃ o₀ o₁ o₂ o₃ o₄ o₅ o₆ o₇ o₈ o₉, cells = [(c₀, o₀), (c₁, o₁), (c₂, o₂), (c₃, o₃), (c₄, o₄), (c₅, o₅), (c₆, o₆), (c₇, o₇), (c₈, o₈), (c₉, o₉)] ∧ o₀.data = .cell (cm n₀) ∧ o₁.data = .cell (cm n₁) ∧ o₂.data = .cell (cm n₂) ∧ o₃.data = .cell (cm n₃) ∧ o₄.data = .cell (cm n₄) ∧ o₅.data = .cell (cm n₅) ∧ o₆.data = .cell (cm n₆) ∧ o₇.data = .cell (cm n₇) ∧ o₈.data = .cell (cm n₈) ∧ o₉.data = .cell (cm n₉) := by
  cases x with | cons h r => obtain ⟨o₁, o₂, o₃, o₄, o₅, o₆, o₇, o₈, o₉, rfl, h₁, h₂, h₃, h₄, h₅, h₆, h₇, h₈, h₉⟩ := kc_nine r; exact ⟨_, o₁, o₂, o₃, o₄, o₅, o₆, o₇, o₈, o₉, rfl, h, h₁, h₂, h₃, h₄, h₅, h₆, h₇, h₈, h₉⟩
theorem kc_eleven {cm : PySem.Str → Option Value} {nn n₀ n₁ n₂ n₃ n₄ n₅ n₆ n₇ n₈ n₉ : PySem.Str} {cc c₀ c₁ c₂ c₃ c₄ c₅ c₆ c₇ c₈ c₉ : Addr} {cells : List (Addr × Obj)} (x : CellsAre cm [(nn, cc), (n₀, c₀), (n₁, c₁), (n₂, c₂), (n₃, c₃), (n₄, c₄), (n₅, c₅), (n₆, c₆), (n₇, c₇), (n₈, c₈), (n₉, c₉)] cells) :
    ∃ oo o₀ o₁ o₂ o₃ o₄ o₅ o₆ o₇ o₈ o₉, cells = [(cc, oo), (c₀, o₀), (c₁, o₁), (c₂, o₂), (c₃, o₃), (c₄, o₄), (c₅, o₅), (c₆, o₆), (c₇, o₇), (c₈, o₈), (c₉, o₉)] ∧ oo.data = .cell (cm nn) ∧ o₀.data = .cell (cm n₀) ∧ o₁.data = .cell (cm n₁) ∧ o₂.data = .cell (cm n₂) ∧ o₃.data = .cell (cm n₃) ∧ o₄.data = .cell (cm n₄) ∧ o₅.data = .cell (cm n₅) ∧ o₆.data = .cell (cm n₆) ∧ o₇.data = .cell (cm n₇) ∧ o₈.data = .cell (cm n₈) ∧ o₉.data = .cell (cm n₉) := by
  cases x with | cons h r => obtain ⟨o₀, o₁, o₂, o₃, o₄, o₅, o₆, o₇, o₈, o₉, rfl, h₀, h₁, h₂, h₃, h₄, h₅, h₆, h₇, h₈, h₉⟩ := kc_ten r; exact ⟨_, o₀, o₁, o₂, o₃, o₄, o₅, o₆, o₇, o₈, o₉, rfl, h, h₀, h₁, h₂, h₃, h₄, h₅, h₆, h₇, h₈, h₉⟩
theorem item_at {prog : Program} {w : World} {A : Around} {E : Value → Shared → Prop} {s : Shared} {h₀ : Heap} {L : Addr} {news : List (Addr × Obj)} {value slice : PySem.Expr} {l : Addr} {its : Array Value} {n : Nat} {k : Int} {u : Tok} {v : Value} {Q : Value → Shared → Prop}
    (N : News h₀ L s.heap news) (hm : (l, listOf its n) ∈ news) (h0 : 0 ≤ k) (hhi : k < 2 ^ 63) (hx : its.toList[k.toNat]? = some v) (h : Q v s)
    (hs : subscripted slice false (.ref l) (.int k u) = operate [.ref l, .int k u] (getItem (.ref l) (.int k u)) := by with_unfolding_all rfl) :
    wpAny (model prog w) A (subscriptTail value slice (.ref l) (.int k u)) Q E s := by
  have hl : s.heap.IsList l its := ⟨_, (N _ hm).1, rfl, n, rfl⟩
  exact tail_any hl.typeIs slot_list_getitem.lookup (wpAny_getItem_list hl h0 hhi (by simpa using hx) h) hs
theorem news_drop3 {h₀ h : Heap} {L : Addr} {q a b c : Addr × Obj} {news : List (Addr × Obj)} (N : News h₀ L h (q :: a :: b :: c :: news)) : News h₀ L h (q :: news) := fun p hp => by
  rcases List.mem_cons.mp hp with rfl | hp
  · exact N _ (.head _)
  · exact N p (.tail _ (.tail _ (.tail _ (.tail _ hp))))
noncomputable def rangeObj (n : Int) (t u v : Tok) : Obj := { cls := .type "range", dict := none, data := .fields #[.int 0 t, .int n u, .int 1 v], slots := #[] }
theorem range_led {prog : Program} {w : World} {A : Around} {E : Value → Shared → Prop} {s : Shared} {h₀ : Heap} {L : Addr} {m : PySem.Str → Option Value} {news : List (Addr × Obj)} {n : Int} {t : Tok} {Q : Value → Shared → Prop}
    (F : Fr h₀ L s.heap m) (N : News h₀ L s.heap news)
    (h : ∀ r h' tk t₁ v₁, Fr h₀ L h' m → News h₀ L h' ((r, rangeObj n t₁ t v₁) :: news) → (∀ q ∈ news, q.1 < r) → Q (.ref r) { s with heap := h', toks := tk }) :
    wpAny (model prog w) A (call (.type "range") [.int n t]) Q E s := by
  have hL : L < s.heap.objs.size := F.ns.lt
  refine call_range_1 (h s.heap.objs.size (s.heap.push (rangeObj n s.toks t (s.toks + 1))) (s.toks + 1 + 1) s.toks (s.toks + 1) (F.push _) (fun p hp => ?_) fun q hq => Heap.lt_size (N q hq).1)
  rcases List.mem_cons.mp hp with rfl | hp
  · exact ⟨Heap.get?_push_size _ rfl, Nat.ne_of_gt hL, Heap.get?_none_of_le (Nat.le_trans F.above (Nat.le_of_lt hL))⟩
  · exact ⟨Heap.get?_push_of_some _ (N p hp).1, (N p hp).2⟩
theorem range_is {h₀ h : Heap} {L r : Addr} {news : List (Addr × Obj)} {n : Int} {t u v : Tok} (N : News h₀ L h news) (hm : (r, rangeObj n t u v) ∈ news) : IsRange h r 0 n 1 t u v := (N _ hm).1
theorem txt_get {d : Int} {S : PySem.Str} {k : Nat} (h : k < 6) : ((List.range 6).map (txt d S))[k]? = some (txt d S k) := by
  rw [List.getElem?_map, List.getElem?_range h]; rfl
theorem map_p {m : PySem.Str → Option Value} {v : Value} (h : m "pages" = some v) : m = fun (y : PySem.Str) => if y = "pages" then some v else m y := by
  funext y
  by_cases e : y = "pages"
  · rw [if_pos e, e, h]
  · rw [if_neg e]
theorem map_op {m : PySem.Str → Option Value} {u v : Value} (h1 : m "one" = some u) (h2 : m "pages" = some v) : m = fun (y : PySem.Str) => if y = "one" then some u else if y = "pages" then some v else m y := by
  funext y
  by_cases e : y = "one"
  · rw [if_pos e, e, h1]
  · rw [if_neg e]
    by_cases e2 : y = "pages"
    · rw [if_pos e2, e2, h2]
    · rw [if_neg e2]
noncomputable def JL (v : Value) (news : List (Addr × Obj)) : Nat → (PySem.Str → Option Value) → List (Addr × Obj) → Prop := fun _ m nx => m "pages" = some v ∧ nx = news
noncomputable def JM (v u : Value) (news : List (Addr × Obj)) : Nat → (PySem.Str → Option Value) → List (Addr × Obj) → Prop := fun _ m nx => m "one" = some u ∧ m "pages" = some v ∧ nx = news
theorem pg_bd {a f : Int} (ha : 0 ≤ a ∧ a < 9000) (hf : 1 ≤ f ∧ f ≤ 12) {i : Nat} (hi : i < 6) : 1000 ≤ pg a f i ∧ pg a f i < 100000000000000 := ⟨pg_pos ha.1 hf.1 i, pg_hi ha hf.1 hf.2 (by omega)⟩
section
variable {prog : Program} {w : World} {A : Around} {E : Value → Shared → Prop} {s : Shared} {h₀ : Heap} {L : Addr} {news : List (Addr × Obj)} {value slice : PySem.Expr} {l : Addr} {vs : List Value} {n k : Nat} {u : Tok} {Q : Value → Shared → Prop} {a f d : Int} {S : PySem.Str}
theorem rk_at (N : News h₀ L s.heap news) (hm : (l, listOf vs.toArray n) ∈ news) (hi : IntsAre vs (RK a f)) (hk : k < 6) (h : ∀ t, Q (.int (rankV (pg a f k) f) t) s)
    (hs : subscripted slice false (.ref l) (.int (0 + (k : Int)) u) = operate [.ref l, .int (0 + (k : Int)) u] (getItem (.ref l) (.int (0 + (k : Int)) u)) := by with_unfolding_all rfl) :
    wpAny (model prog w) A (subscriptTail value slice (.ref l) (.int (0 + (k : Int)) u)) Q E s := by
  have e : (0 + (k : Int)).toNat = k := by omega
  refine itemI_at N hm hi (by omega) (by omega) (by rw [e]; exact hk) (fun t => ?_) hs
  rw [e, rk_get hk]; exact h t
theorem pg_at (N : News h₀ L s.heap news) (hm : (l, listOf vs.toArray n) ∈ news) (hi : IntsAre vs (PG a f)) (hk : k < 6) (h : ∀ t, Q (.int (pg a f k) t) s)
    (hs : subscripted slice false (.ref l) (.int (0 + (k : Int)) u) = operate [.ref l, .int (0 + (k : Int)) u] (getItem (.ref l) (.int (0 + (k : Int)) u)) := by with_unfolding_all rfl) :
    wpAny (model prog w) A (subscriptTail value slice (.ref l) (.int (0 + (k : Int)) u)) Q E s := by
  have e : (0 + (k : Int)).toNat = k := by omega
  refine itemI_at N hm hi (by omega) (by omega) (by rw [e]; exact Nat.lt_of_lt_of_le hk (by show 6 ≤ 10; decide)) (fun t => ?_) hs
  rw [e, pg_getD (Nat.lt_of_lt_of_le hk (by decide))]; exact h t
theorem tx_at (N : News h₀ L s.heap news) (hm : (l, listOf vs.toArray n) ∈ news) (hi : StrsAre vs ((List.range 6).map (txt d S))) (hk : k < 6) (h : ∀ t, Q (.str (txt d S k) t) s)
    (hs : subscripted slice false (.ref l) (.int (0 + (k : Int)) u) = operate [.ref l, .int (0 + (k : Int)) u] (getItem (.ref l) (.int (0 + (k : Int)) u)) := by with_unfolding_all rfl) :
    wpAny (model prog w) A (subscriptTail value slice (.ref l) (.int (0 + (k : Int)) u)) Q E s := by
  have e : (0 + (k : Int)).toNat = k := by omega
  refine itemS_at (x := txt d S k) N hm hi (by omega) (by omega) (by rw [e]; rw [List.getElem?_map, List.getElem?_range hk]; rfl) h hs
end
local macro_rules | `(tactic| cells_open $x:ident) => `(tactic| (obtain ⟨_, _, _, _, _, _, _, _, _, _, _, he, _, _, _, _, _, _, _, _, _, _, _⟩ := Mine.kc_eleven $x; subst he))
local macro_rules | `(tactic| k_cells $Y:ident) => `(tactic| (have hY := Mine.kc_eleven $Y; obtain ⟨o', o2', o3', o4', o5', o6', o7', o8', o9', o10', o11', hE', d1', d2', d3', d4', d5', d6', d7', d8', d9', d10', d11'⟩ := hY; subst hE'; clear $Y))
local macro_rules | `(tactic| k_ne) => `(tactic| (refine neN ?_; (try dsimp only); first | k_dflt (exact Mine.off1_ne (by with_reducible assumption) (by k_mem)) | k_dflt (exact Ne.symm (Mine.off1_ne (by with_reducible assumption) (by k_mem)))))
local macro_rules | `(tactic| size_fits) => `(tactic| with_reducible assumption)
theorem law1 : Challenge.rw_yf0014_01.Holds := hd (by
  k_with_none
  k_with "ite" => first | rw [if_pos (by decide)] | rw [if_neg (by decide)]
  k_with "subscriptTail Name Constant ref int" => (k_here; (with_reducible show wpAny _ _ (subscriptTail _ (Expr.Constant _ _ _) (Value.ref _) (Value.int _ _)) _ _ _); k_dflt (refine' Mine.item_at ?N ?m ?h0 ?hh ?hx ?_ ?hs; (case N => k_asm); (case m => k_mem); (case h0 => decide); (case hh => decide); (case hx => rfl); (case hs => with_unfolding_all rfl)))
  k_with "call ref" => (k_here; k_dflt (refine' Mine.clml_use (Mine.cells_C _ _ _ _ _ _ _ _ _ _) ?k1 ?k2 ?k3 ?k4 ?k5 ?kK ?kp ?kd ?ku ?_; (case k1 => k_asm); (case k2 => k_asm); (case k3 => k_asm); (case k4 => k_asm); (case k5 => k_asm); (case kK => first | exact rfl | assumption); (case kp => exact ⟨by assumption, by assumption, by omega⟩); (case kd => ktr_room); (case ku => ktr_units)); intro l9 x9 n9 h9 tk9 P9 F9 N9 l1; (try k_lt l1); (obtain ⟨a9, b9, c9, d9, ta9, tb9, tc9, td9, e9, ha9, hb9, hc9, hd9⟩ := P9); subst e9; (try dsimp only); (try k_fold))
  k_go0
  repeat' ((fail_if_success (with_reducible show wpAny _ _ (exec (Stmt.Assign [Expr.Name (PySem.Str.ofString "factor") _] _ _) _) _ _ _)); (first | (k_unfold; (try dsimp only)) | (k_end; wrow_close) | walk1 | (dsimp only; walk1) | (leave1; try dsimp only) | fail "no step"))
  (rename (0 : Int) ≤ _ ∧ _ < (90 : Int) => hb9)
  (rename (0 : Int) ≤ _ ∧ _ < (72 : Int) => hc9)
  (rename (0 : Int) ≤ _ ∧ _ < (5 : Int) => hd9)
  obtain ⟨low9, high9, two9, elo, ehi⟩ := low_high hc9.1 hc9.2
  obtain ⟨W9, wok9, eW⟩ := word_ok hb9.1 hb9.2
  have wlen9 := word_len wok9
  have fac9 := factor_ok hd9 wok9
  simp only [elo, ehi, eW] at *
  clear elo ehi eW
  k_with_none
  k_with "ite" => first | rw [if_pos (by decide)] | rw [if_neg (by decide)] | rw [if_neg (by simp only [bne_self_eq_false, Bool.false_eq_true, not_false_eq_true])]
  k_with "subscriptTail Name Constant ref int" => (k_here; (with_reducible show wpAny _ _ (subscriptTail _ (Expr.Constant _ _ _) (Value.ref _) (Value.int _ _)) _ _ _); k_dflt (refine' Mine.item_at ?N ?m ?h0 ?hh ?hx ?_ ?hs; (case N => k_asm); (case m => k_mem); (case h0 => decide); (case hh => decide); (case hx => rfl); (case hs => with_unfolding_all rfl)))
  k_with "exec Assign cons ListComp" => (k_here; k_dflt (refine LCg.Assign_ListComp_U (F₀ := by k_asm) (by rfl) (by with_unfolding_all rfl) (by with_unfolding_all rfl) (by decide) (by rfl) (by decide) (by rfl) (by rfl) (by rfl) ?_))
  k_with "eval ListComp" => (k_here; k_dflt (refine LCg.ListComp_U (F₀ := by k_asm) (by with_unfolding_all rfl) (by decide) (by rfl) (by decide) (by rfl) ?_))
  k_with "CompSrc" => fail "own"
  k_with "FinE" => ((unfold LCg.FinE); intro _ _ _ _ N'Z _; (try simp only [List.nil_append, List.cons_append] at N'Z); (try dsimp only))
  k_with "FinA" => ((unfold LCg.FinA); intro _ _ _ _ N'Z _; (try simp only [List.nil_append, List.cons_append] at N'Z); (try dsimp only))
  k_with "CompEnd" => (k_here; k_dflt (refine' Mine.ce_same ?F ?off ?N ?S ?_; (case off => assumption); (case F => k_asm); (case N => assumption); (case S => first | exact True.intro | exact Or.inr ⟨_, by k_mem, rfl, _, rfl⟩)))
  k_with "call ref" => (k_here; k_dflt (refine' Mine.clm_use (Mine.write_C _ _ _ _ _ _ _ _ _ _ _) ?k1 ?k2 ?k3 ?k4 ?k5 ?kK ?kp ?kd ?ku ?_; (case k1 => k_asm); (case k2 => k_asm); (case k3 => k_asm); (case k4 => k_asm); (case k5 => k_asm); (case kK => first | exact rfl | assumption); (case kp => first | with_reducible assumption | exact ⟨by omega, by with_reducible assumption⟩ | omega); (case kd => ktr_room); (case ku => ktr_units)); intro _ _ _ _ _; (try dsimp only); (try k_fold))
  repeat' ((fail_if_success (first | (with_reducible show LCg.CompSrc _ _ _ _ _ _ _ _ _ _ _ _ _ _))); (first | (k_unfold; (try dsimp only)) | (k_end; wrow_close) | walk1 | (dsimp only; walk1) | (leave1; try dsimp only) | fail "no step"))
  refine LCg.CompSrc.range (n := 10) (by rfl) (by k_asm) (by k_asm) (by assumption) (by decide) (by rfl) (by exact Nat.le_of_ble_eq_true rfl) ?_
  intro g9
  refine rest_map (ks := List.range 10) (fun k v => ∃ t, v = .int (0 + (k : Int)) t) (fun k y => ∃ t, y = .int (pg a9 (esc d9 W9).length k) t) (by rfl) (fun i v hi hv => ⟨i, by simp [hi], hv⟩) ?turn ?fin
  case turn =>
    intro k9 v I' oI' C' oC' D' m2' ys' h9 tk9 E9 hk9 henc hC' hx' F' N' off' ne'
    obtain ⟨u9, rfl⟩ := henc
    have hk9' : k9 < 10 := by simpa using hk9
    have off9 := off'
    clear off'
    k_steps
    exact ⟨rfl, Mine.int_end (by rw [Int.zero_add]; rfl)⟩
  case fin =>
    intro ys9 hys9 hlen9
    walk1
    have hP9 : IntsAre ys9 (PG a9 (esc d9 W9).length) := hys9.ints (fun _ _ e => e)
    have hpok9 : PagesOk (PG a9 (esc d9 W9).length) := pages_ok ha9 fac9
    clear hys9
    k_with_none
    k_with "ite" => first | rw [if_pos (by decide)] | rw [if_neg (by decide)] | rw [if_neg (by simp only [bne_self_eq_false, Bool.false_eq_true, not_false_eq_true])]
    k_with "subscriptTail Name Constant ref int" => (k_here; (with_reducible show wpAny _ _ (subscriptTail _ (Expr.Constant _ _ _) (Value.ref _) (Value.int _ _)) _ _ _); k_dflt (refine' Mine.item_at ?N ?m ?h0 ?hh ?hx ?_ ?hs; (case N => k_asm); (case m => k_mem); (case h0 => decide); (case hh => decide); (case hx => rfl); (case hs => with_unfolding_all rfl)))
    k_with "exec Assign cons ListComp" => (k_here; k_dflt (refine LCg.Assign_ListComp_U (F₀ := by k_asm) (by rfl) (by with_unfolding_all rfl) (by with_unfolding_all rfl) (by decide) (by rfl) (by decide) (by rfl) (by rfl) (by rfl) ?_))
    k_with "eval ListComp" => (k_here; k_dflt (refine LCg.ListComp_U (F₀ := by k_asm) (by with_unfolding_all rfl) (by decide) (by rfl) (by decide) (by rfl) ?_))
    k_with "CompSrc" => fail "own"
    k_with "FinE" => ((unfold LCg.FinE); intro _ _ _ _ N'Z _; (try simp only [List.nil_append, List.cons_append] at N'Z); (try dsimp only))
    k_with "FinA" => ((unfold LCg.FinA); intro _ _ _ _ N'Z _; (try simp only [List.nil_append, List.cons_append] at N'Z); (try dsimp only))
    k_with "CompEnd" => (k_here; k_dflt (refine' Mine.ce_same ?F ?off ?N ?S ?_; (case off => assumption); (case F => k_asm); (case N => assumption); (case S => first | exact True.intro | exact Or.inr ⟨_, by k_mem, rfl, _, rfl⟩)))
    k_with "call ref" => (k_here; k_dflt (refine' Mine.clml_use (Mine.columns_C _ _ _ _ _ _ _ _ _ _ _) ?k1 ?k2 ?k3 ?k4 ?k5 ?kK ?kp ?kd ?ku ?_; (case k1 => k_asm); (case k2 => k_asm); (case k3 => k_asm); (case k4 => k_asm); (case k5 => k_asm); (case kK => first | exact rfl | assumption); (case kp => exact ⟨by k_mem, by assumption, by assumption⟩); (case kd => ktr_room); (case ku => ktr_units)); intro _ _ _ _ _ _ _ _ l1Z; (try k_lt l1Z); (try dsimp only); (try k_fold))
    k_with "call ref" => (k_here; k_dflt (refine' Mine.clm_useF (Mine.figures_C _ _ _ _ _ _ _ _ _) Mine.figs_bnd ?k1 ?k2 ?k3 ?k4 ?k5 ?kK ?kp ?kd ?ku ?_; (case k1 => k_asm); (case k2 => k_asm); (case k3 => k_asm); (case k4 => k_asm); (case k5 => k_asm); (case kK => first | exact rfl | assumption); (case kp => first | with_reducible assumption | omega | l_fact); (case kd => ktr_room); (case ku => ktr_units)); intro _ _ _ _ _ _; (try dsimp only); (try k_fold))
    k_with "compareOp NotEq ref ref" => (k_here; k_dflt (refine' ne_intsK ?k1 ?k2 ?k3 ?k4 ?k5 ?_; (case k1 => is_list); (case k2 => assumption); (case k3 => is_list); (case k4 => assumption); (case k5 => units_room); (try simp only [decide_true, Bool.not_true])))
    repeat' ((fail_if_success (first | (with_reducible show LCg.CompSrc _ _ _ _ _ _ _ _ _ _ _ _ _ _))); (first | (k_unfold; (try dsimp only)) | (k_end; wrow_close) | walk1 | (dsimp only; walk1) | (leave1; try dsimp only) | fail "no step"))
    refine LCg.CompSrc.ledger (its := ys9.toArray) (by rfl) (by k_asm) (by k_asm) (by k_mem) (by rw [List.size_toArray, hlen9]; exact Nat.le_of_ble_eq_true rfl) ?_
    intro g9
    refine rest_map (ks := PG a9 (esc d9 W9).length) (fun k v => ∃ t, v = .int k t) (fun k y => ∃ t, y = .int (figs k) t) (by rw [List.size_toArray, hlen9]; rfl) (fun i v hi hv => ints_atA hP9 hv) ?turn ?fin
    case turn =>
      intro k9 v I' oI' C' oC' D' m2' ys' h9 tk9 E9 hk9 henc hC' hx' F' N' off' ne'
      obtain ⟨u9, rfl⟩ := henc
      have hk9' := pg_mem ha9 fac9 hk9
      have off9 := off'
      clear off'
      k_steps
      exact ⟨rfl, Mine.int_end rfl⟩
    case fin =>
      intro ys8 hys8 hlen8
      have hP8 : IntsAre ys8 ((PG a9 (esc d9 W9).length).map figs) := hys8.ints (fun _ _ e => e)
      clear hys8
      repeat' ((fail_if_success (first | (with_reducible show wpAny _ _ (exec (Stmt.Assign [Expr.Name (PySem.Str.ofString "most") _] _ _) _) _ _ _))); (first | (k_unfold; (try dsimp only)) | (k_end; wrow_close) | walk1 | (dsimp only; walk1) | (leave1; try dsimp only) | fail "no step"))
      (rename News _ _ _ ((_, LCg.lst ys8) :: _) => N8)
      replace N8 := Mine.news_tail N8
      clear hP8 hlen8
      k_with_none
      k_with "ite" => first | rw [if_pos (by decide)] | rw [if_neg (by decide)] | rw [if_neg (by simp only [bne_self_eq_false, Bool.false_eq_true, not_false_eq_true])]
      k_with "subscriptTail Name BinOp ref int" => (k_here; k_dflt (refine' Mine.itemI_at ?N ?m ?i ?h0 ?hh ?hk ?_ ?hs; (case N => k_asm); (case m => k_mem); (case i => assumption); (case h0 => omega); (case hh => omega); (case hk => (show _ < 10); omega); (case hs => with_unfolding_all rfl); intro _))
      k_with "subscriptTail Name Name ref int" => (k_here; k_dflt (refine' Mine.itemI_at ?N ?m ?i ?h0 ?hh ?hk ?_ ?hs; (case N => k_asm); (case m => k_mem); (case i => assumption); (case h0 => omega); (case hh => omega); (case hk => (show _ < 10); omega); (case hs => with_unfolding_all rfl); intro _))
      k_with "exec Assign cons ListComp" => (k_here; k_dflt (refine LCg.Assign_ListComp_U (F₀ := by k_asm) (by rfl) (by with_unfolding_all rfl) (by with_unfolding_all rfl) (by decide) (by rfl) (by decide) (by rfl) (by rfl) (by rfl) ?_))
      k_with "eval ListComp" => (k_here; k_dflt (refine LCg.ListComp_U (F₀ := by k_asm) (by with_unfolding_all rfl) (by decide) (by rfl) (by decide) (by rfl) ?_))
      k_with "CompSrc" => fail "own"
      k_with "FinE" => ((unfold LCg.FinE); intro _ _ _ _ N'Z _; (try simp only [List.nil_append, List.cons_append] at N'Z); (try dsimp only))
      k_with "FinA" => ((unfold LCg.FinA); intro _ _ _ _ N'Z _; (try simp only [List.nil_append, List.cons_append] at N'Z); (try dsimp only))
      k_with "CompEnd" => (k_here; k_dflt (refine' Mine.ce_same ?F ?off ?N ?S ?_; (case off => assumption); (case F => k_asm); (case N => assumption); (case S => first | exact True.intro | exact Or.inr ⟨_, by k_mem, rfl, _, rfl⟩)))
      k_with "call ref" => (k_here; k_dflt (refine' Mine.clm_useF (Mine.figures_C _ _ _ _ _ _ _ _ _) Mine.figs_bnd ?k1 ?k2 ?k3 ?k4 ?k5 ?kK ?kp ?kd ?ku ?_; (case k1 => k_asm); (case k2 => k_asm); (case k3 => k_asm); (case k4 => k_asm); (case k5 => k_asm); (case kK => first | exact rfl | assumption); (case kp => first | with_reducible assumption | omega | l_fact); (case kd => ktr_room); (case ku => ktr_units)); intro _ _ _ _ _ _; (try dsimp only); (try k_fold))
      have fac20 : (1 : Int) ≤ ((esc d9 W9).length : Int) ∧ ((esc d9 W9).length : Int) < 10 ^ 20 := ⟨fac9.1, Int.lt_of_le_of_lt fac9.2 (by decide)⟩
      repeat' ((fail_if_success (first | (with_reducible show LCg.CompSrc _ _ _ _ _ _ _ _ _ _ _ _ _ _))); (first | (k_unfold; (try dsimp only)) | (k_end; wrow_close) | walk1 | (dsimp only; walk1) | (leave1; try dsimp only) | fail "no step"))
      refine LCg.CompSrc.range (n := 9) (by rfl) (by k_asm) (by k_asm) (by assumption) (by decide) (by rfl) (by exact Nat.le_of_ble_eq_true rfl) ?_
      intro g9
      refine rest_map (ks := List.range 9) (fun k v => ∃ t, v = .int (0 + (k : Int)) t) (fun k y => ∃ t, y = .str (stp low9 high9 a9 (esc d9 W9).length k) t) (by rfl) (fun i v hi hv => ⟨i, by simp [hi], hv⟩) ?turn ?fin
      case turn =>
        intro k9 v I' oI' C' oC' D' m2' ys' h9 tk9 E9 hk9 henc hC' hx' F' N' off' ne'
        obtain ⟨u9, rfl⟩ := henc
        have off9 := off'
        clear off'
        have hk9' : k9 < 9 := by simpa using hk9
        k_steps
        · exact ⟨rfl, Mine.str_end (Mine.stp_hi hk9' (by assumption))⟩
        · exact ⟨rfl, Mine.str_end (Mine.stp_lo hk9' (by assumption))⟩
      case fin =>
        intro ys8 hys8 hlen8
        have hP8 : StrsAre ys8 ((List.range 9).map (stp low9 high9 a9 (esc d9 W9).length)) := hys8.strs (fun _ _ e => e)
        clear hys8
        k_steps
        refine join_listW (ys := (List.range 9).map (stp low9 high9 a9 (esc d9 W9).length)) (by is_list) (by simpa using hP8) (by decide +kernel) (steps_join two9 _ _) ?_
        intro t8 k8
        generalize hS9 : Txt.join (PySem.Str.ofString "") ((List.range 9).map (stp low9 high9 a9 (esc d9 W9).length)) = S9
        (rename News _ _ _ ((_, LCg.lst ys8) :: _) => N8)
        replace N8 := Mine.news_tail N8
        clear hP8 hlen8
        repeat' ((fail_if_success (first | (with_reducible show wpAny _ _ (exec (Stmt.Assign [Expr.Name (PySem.Str.ofString "texts") _] _ _) _) _ _ _))); (first | (k_unfold; (try dsimp only)) | (k_end; wrow_close) | walk1 | (dsimp only; walk1) | (leave1; try dsimp only) | fail "no step"))
        k_with_none
        k_with "ite" => first | rw [if_pos (by decide)] | rw [if_neg (by decide)] | rw [if_neg (by simp only [bne_self_eq_false, Bool.false_eq_true, not_false_eq_true])]
        k_with "subscriptTail Name BinOp ref int" => (k_here; k_dflt (refine' Mine.itemI_at ?N ?m ?i ?h0 ?hh ?hk ?_ ?hs; (case N => k_asm); (case m => k_mem); (case i => assumption); (case h0 => omega); (case hh => omega); (case hk => (show _ < 10); omega); (case hs => with_unfolding_all rfl); intro _))
        k_with "subscriptTail Name Name ref int" => (k_here; k_dflt (refine' Mine.itemI_at ?N ?m ?i ?h0 ?hh ?hk ?_ ?hs; (case N => k_asm); (case m => k_mem); (case i => assumption); (case h0 => omega); (case hh => omega); (case hk => (show _ < 10); omega); (case hs => with_unfolding_all rfl); intro _))
        k_with "exec Assign cons ListComp" => (k_here; k_dflt (refine LCg.Assign_ListComp_U (F₀ := by k_asm) (by rfl) (by with_unfolding_all rfl) (by with_unfolding_all rfl) (by decide) (by rfl) (by decide) (by rfl) (by rfl) (by rfl) ?_))
        k_with "eval ListComp" => (k_here; k_dflt (refine LCg.ListComp_U (F₀ := by k_asm) (by with_unfolding_all rfl) (by decide) (by rfl) (by decide) (by rfl) ?_))
        k_with "CompSrc" => fail "own"
        k_with "FinE" => ((unfold LCg.FinE); intro _ _ _ _ N'Z _; (try simp only [List.nil_append, List.cons_append] at N'Z); (try dsimp only))
        k_with "FinA" => ((unfold LCg.FinA); intro _ _ _ _ N'Z _; (try simp only [List.nil_append, List.cons_append] at N'Z); (try dsimp only))
        k_with "CompEnd" => (k_here; k_dflt (refine' Mine.ce_same ?F ?off ?N ?S ?_; (case off => assumption); (case F => k_asm); (case N => assumption); (case S => first | exact True.intro | exact Or.inr ⟨_, by k_mem, rfl, _, rfl⟩)))
        k_with "compareOp NotEq ref ref" => (k_here; k_dflt (refine' Mine.ne_strsK ?k1 ?k2 ?k3 ?k4 ?ok ?k5 ?_; (case k1 => is_list); (case k2 => assumption); (case k3 => is_list); (case k4 => assumption); (case ok => assumption); (case k5 => units_room)))
        k_with "call ref" => (k_here; k_dflt (refine' Mine.clm_use (Mine.write_C _ _ _ _ _ _ _ _ _ _ _) ?k1 ?k2 ?k3 ?k4 ?k5 ?kK ?kp ?kd ?ku ?_; (case k1 => k_asm); (case k2 => k_asm); (case k3 => k_asm); (case k4 => k_asm); (case k5 => k_asm); (case kK => first | exact rfl | assumption); (case kp => first | with_reducible assumption | exact ⟨by omega, by with_reducible assumption⟩ | omega); (case kd => ktr_room); (case ku => ktr_units)); intro _ _ _ _ _; (try dsimp only); (try k_fold))
        k_with "call ref" => (k_here; k_dflt (refine' Mine.clm_use (Mine.spelled_C _ _ _ _ _ _ _ _ _ _ _) ?k1 ?k2 ?k3 ?k4 ?k5 ?kK ?kp ?kd ?ku ?_; (case k1 => k_asm); (case k2 => k_asm); (case k3 => k_asm); (case k4 => k_asm); (case k5 => k_asm); (case kK => first | exact rfl | assumption); (case kp => first | with_reducible assumption | exact ⟨by omega, by with_reducible assumption⟩ | omega); (case kd => ktr_room); (case ku => ktr_units)); intro _ _ _ _ _; (try dsimp only); (try k_fold))
        have eS9 : S9 = stepsS low9 high9 a9 (esc d9 W9).length := hS9.symm
        clear hS9
        have hsz9 : S9.length ≤ sizeLine := by rw [eS9]; exact steps_fit two9 _ _
        repeat' ((fail_if_success (first | (with_reducible show LCg.CompSrc _ _ _ _ _ _ _ _ _ _ _ _ _ _))); (first | (k_unfold; (try dsimp only)) | (k_end; wrow_close) | walk1 | (dsimp only; walk1) | (leave1; try dsimp only) | fail "no step"))
        refine LCg.CompSrc.range (n := 6) (by rfl) (by k_asm) (by k_asm) (by assumption) (by decide) (by rfl) (by exact Nat.le_of_ble_eq_true rfl) ?_
        intro g9
        refine rest_map (ks := List.range 6) (fun k v => ∃ t, v = .int (0 + (k : Int)) t) (fun k y => ∃ t, y = .str (txt d9 S9 k) t) (by rfl) (fun i v hi hv => ⟨i, by simp [hi], hv⟩) ?turn ?fin
        case turn =>
          intro k9 v I' oI' C' oC' D' m2' ys' h9 tk9 E9 hk9 henc hC' hx' F' N' off' ne'
          obtain ⟨u9, rfl⟩ := henc
          have off9 := off'
          clear off'
          have hk9' : k9 < 6 := by simpa using hk9
          have hsl : (Txt.slice S9 (some (0 + (k9 : Int))) (some (0 + (k9 : Int) + 4))).length ≤ 4 := by rw [eS9]; exact slice_len two9 _ _ hk9'
          k_steps
          exact ⟨rfl, Mine.str_end rfl⟩
        case fin =>
          intro ys8 hys8 hlen8
          have hT8 : StrsAre ys8 ((List.range 6).map (txt d9 S9)) := hys8.strs (fun _ _ e => e)
          have hok8 : ∀ y ∈ (List.range 6).map (txt d9 S9), PyData.strOk y = true := by
            intro y hy
            obtain ⟨k, hk, rfl⟩ := List.mem_map.mp hy
            rw [eS9]
            exact txt_ok two9 hd9 _ _ (by simpa using hk)
          clear hys8
          repeat' ((fail_if_success (first | (with_reducible show LCg.CompSrc _ _ _ _ _ _ _ _ _ _ _ _ _ _))); (first | (k_unfold; (try dsimp only)) | (k_end; wrow_close) | walk1 | (dsimp only; walk1) | (leave1; try dsimp only) | fail "no step"))
          k_with_none
          k_with "ite" => first | rw [if_pos (by decide)] | rw [if_neg (by decide)] | rw [if_neg (by simp only [bne_self_eq_false, Bool.false_eq_true, not_false_eq_true])]
          k_with "subscriptTail Name BinOp ref int" => (k_here; k_dflt (refine' Mine.itemI_at ?N ?m ?i ?h0 ?hh ?hk ?_ ?hs; (case N => k_asm); (case m => k_mem); (case i => assumption); (case h0 => omega); (case hh => omega); (case hk => (show _ < 10); omega); (case hs => with_unfolding_all rfl); intro _))
          k_with "subscriptTail Name Name ref int" => (k_here; k_dflt (refine' Mine.itemI_at ?N ?m ?i ?h0 ?hh ?hk ?_ ?hs; (case N => k_asm); (case m => k_mem); (case i => assumption); (case h0 => omega); (case hh => omega); (case hk => (show _ < 10); omega); (case hs => with_unfolding_all rfl); intro _))
          k_with "exec Assign cons ListComp" => (k_here; k_dflt (refine LCg.Assign_ListComp_U (F₀ := by k_asm) (by rfl) (by with_unfolding_all rfl) (by with_unfolding_all rfl) (by decide) (by rfl) (by decide) (by rfl) (by rfl) (by rfl) ?_))
          k_with "eval ListComp" => (k_here; k_dflt (refine LCg.ListComp_U (F₀ := by k_asm) (by with_unfolding_all rfl) (by decide) (by rfl) (by decide) (by rfl) ?_))
          k_with "CompSrc" => fail "own"
          k_with "FinE" => ((unfold LCg.FinE); intro _ _ _ _ N'Z _; (try simp only [List.nil_append, List.cons_append] at N'Z); (try dsimp only))
          k_with "FinA" => ((unfold LCg.FinA); intro _ _ _ _ N'Z _; (try simp only [List.nil_append, List.cons_append] at N'Z); (try dsimp only))
          k_with "CompEnd" => (k_here; k_dflt (refine' Mine.ce_same ?F ?off ?N ?S ?_; (case off => assumption); (case F => k_asm); (case N => assumption); (case S => first | exact True.intro | exact Or.inr ⟨_, by k_mem, rfl, _, rfl⟩)))
          k_with "compareOp NotEq ref ref" => (k_here; k_dflt (refine' Mine.ne_strsK ?k1 ?k2 ?k3 ?k4 ?ok ?k5 ?_; (case k1 => is_list); (case k2 => assumption); (case k3 => is_list); (case k4 => assumption); (case ok => assumption); (case k5 => units_room)))
          k_with "call ref" => (k_here; k_dflt (refine' Mine.clm_use (Mine.write_C _ _ _ _ _ _ _ _ _ _ _) ?k1 ?k2 ?k3 ?k4 ?k5 ?kK ?kp ?kd ?ku ?_; (case k1 => k_asm); (case k2 => k_asm); (case k3 => k_asm); (case k4 => k_asm); (case k5 => k_asm); (case kK => first | exact rfl | assumption); (case kp => first | with_reducible assumption | exact ⟨by omega, by with_reducible assumption⟩ | omega); (case kd => ktr_room); (case ku => ktr_units)); intro _ _ _ _ _; (try dsimp only); (try k_fold))
          k_with "call ref" => (k_here; k_dflt (refine' Mine.clm_use (Mine.spelled_C _ _ _ _ _ _ _ _ _ _ _) ?k1 ?k2 ?k3 ?k4 ?k5 ?kK ?kp ?kd ?ku ?_; (case k1 => k_asm); (case k2 => k_asm); (case k3 => k_asm); (case k4 => k_asm); (case k5 => k_asm); (case kK => first | exact rfl | assumption); (case kp => first | with_reducible assumption | exact ⟨by omega, by with_reducible assumption⟩ | omega); (case kd => ktr_room); (case ku => ktr_units)); intro _ _ _ _ _; (try dsimp only); (try k_fold))
          refine LCg.CompSrc.range (n := 6) (by rfl) (by k_asm) (by k_asm) (by assumption) (by decide) (by rfl) (by exact Nat.le_of_ble_eq_true rfl) ?_
          intro g9
          refine rest_map (ks := List.range 6) (fun k v => ∃ t, v = .int (0 + (k : Int)) t) (fun k y => ∃ t, y = .str (txt d9 S9 k) t) (by rfl) (fun i v hi hv => ⟨i, by simp [hi], hv⟩) ?turn ?fin
          case turn =>
            intro k9 v I' oI' C' oC' D' m2' ys' h9 tk9 E9 hk9 henc hC' hx' F' N' off' ne'
            obtain ⟨u9, rfl⟩ := henc
            have off9 := off'
            clear off'
            have hk9' : k9 < 6 := by simpa using hk9
            have hsl : (Txt.slice S9 (some (0 + (k9 : Int))) (some (0 + (k9 : Int) + 4))).length ≤ 4 := by rw [eS9]; exact slice_len two9 _ _ hk9'
            k_steps
            exact ⟨rfl, Mine.str_end rfl⟩
          case fin =>
            intro ys7 hys7 hlen7
            have hT7 : StrsAre ys7 ((List.range 6).map (txt d9 S9)) := hys7.strs (fun _ _ e => e)
            clear hys7
            repeat' ((fail_if_success (first | (with_reducible show wpAny _ _ (exec (Stmt.Assign [Expr.Name (PySem.Str.ofString "ranks") _] _ _) _) _ _ _))); (first | (k_unfold; (try dsimp only)) | (k_end; wrow_close) | walk1 | (dsimp only; walk1) | (leave1; try dsimp only) | fail "no step"))
            (rename News _ _ _ ((_, LCg.lst ys7) :: _) => N8)
            replace N8 := Mine.news_tail N8
            clear hT7 hlen7
            repeat' ((fail_if_success (first | (with_reducible show LCg.CompSrc _ _ _ _ _ _ _ _ _ _ _ _ _ _))); (first | (k_unfold; (try dsimp only)) | (k_end; wrow_close) | walk1 | (dsimp only; walk1) | (leave1; try dsimp only) | fail "no step"))
            k_with_none
            k_with "ite" => first | rw [if_pos (by decide)] | rw [if_neg (by decide)] | rw [if_neg (by simp only [bne_self_eq_false, Bool.false_eq_true, not_false_eq_true])]
            k_with "subscriptTail Name BinOp ref int" => (k_here; k_dflt (refine' Mine.itemI_at ?N ?m ?i ?h0 ?hh ?hk ?_ ?hs; (case N => k_asm); (case m => k_mem); (case i => assumption); (case h0 => omega); (case hh => omega); (case hk => (show _ < 10); omega); (case hs => with_unfolding_all rfl); intro _))
            k_with "subscriptTail Name Name ref int" => (k_here; k_dflt (refine' Mine.itemI_at ?N ?m ?i ?h0 ?hh ?hk ?_ ?hs; (case N => k_asm); (case m => k_mem); (case i => assumption); (case h0 => omega); (case hh => omega); (case hk => (show _ < 10); omega); (case hs => with_unfolding_all rfl); intro _))
            k_with "exec Assign cons ListComp" => (k_here; k_dflt (refine LCg.Assign_ListComp_U (F₀ := by k_asm) (by rfl) (by with_unfolding_all rfl) (by with_unfolding_all rfl) (by decide) (by rfl) (by decide) (by rfl) (by rfl) (by rfl) ?_))
            k_with "eval ListComp" => (k_here; k_dflt (refine LCg.ListComp_U (F₀ := by k_asm) (by with_unfolding_all rfl) (by decide) (by rfl) (by decide) (by rfl) ?_))
            k_with "CompSrc" => fail "own"
            k_with "FinE" => ((unfold LCg.FinE); intro _ _ _ _ N'Z _; (try simp only [List.nil_append, List.cons_append] at N'Z); (try dsimp only))
            k_with "FinA" => ((unfold LCg.FinA); intro _ _ _ _ N'Z _; (try simp only [List.nil_append, List.cons_append] at N'Z); (try dsimp only))
            k_with "CompEnd" => (k_here; k_dflt (refine' Mine.ce_same ?F ?off ?N ?S ?_; (case off => assumption); (case F => k_asm); (case N => assumption); (case S => first | exact True.intro | exact Or.inr ⟨_, by k_mem, rfl, _, rfl⟩)))
            k_with "call builtin:str.index" => (k_here; k_dflt (refine Mine.index_found (by rfl) (by with_reducible assumption) ?_))
            k_with "call ref" => (k_here; k_dflt (refine' Mine.clm_use (Mine.rank_C _ _ _ _ _ _ _ _ _ _ _) ?k1 ?k2 ?k3 ?k4 ?k5 ?kK ?kp ?kd ?ku ?_; (case k1 => k_asm); (case k2 => k_asm); (case k3 => k_asm); (case k4 => k_asm); (case k5 => k_asm); (case kK => first | exact rfl | assumption); (case kp => first | with_reducible assumption | exact ⟨by omega, by with_reducible assumption⟩ | omega); (case kd => ktr_room); (case ku => ktr_units)); intro _ _ _ _ _; (try dsimp only); (try k_fold))
            k_with "call ref" => (k_here; k_dflt (refine' Mine.clm_use (Mine.alpha_C _ _ _ _ _ _ _ _ _) ?k1 ?k2 ?k3 ?k4 ?k5 ?kK ?kp ?kd ?ku ?_; (case k1 => k_asm); (case k2 => k_asm); (case k3 => k_asm); (case k4 => k_asm); (case k5 => k_asm); (case kK => first | exact rfl | assumption); (case kp => first | trivial | assumption | omega | l_fact); (case kd => ktr_room); (case ku => ktr_units)); intro _ _ _ _ _; (try dsimp only); (try k_fold))
            (rename IntsAre _ (List.take 6 _) => hR9)
            have hlenR := hR9.length
            refine LCg.CompSrc.ledger (by rfl) (by k_asm) (by k_asm) (by k_mem) (by rw [List.size_toArray, hlenR]; exact Nat.le_of_ble_eq_true rfl) ?_
            intro g9
            refine rest_map (ks := (PG a9 (esc d9 W9).length).take 6) (fun k v => ∃ t, v = .int k t) (fun k y => ∃ t, y = .int (rankV k (esc d9 W9).length) t) (by rw [List.size_toArray, hlenR]) (fun i v hi hv => ints_atA hR9 hv) ?turn ?fin
            case turn =>
              intro k9 v I' oI' C' oC' D' m2' ys' h9 tk9 E9 hk9 henc hC' hx' F' N' off' ne'
              obtain ⟨u9, rfl⟩ := henc
              have off9 := off'
              clear off'
              have hk9' := pg_mem ha9 fac9 (List.mem_of_mem_take hk9)
              have hpre9 : (1 ≤ k9 ∧ k9 < 10 ^ 14) ∧ (1 ≤ ((esc d9 W9).length : Int) ∧ ((esc d9 W9).length : Int) ≤ 12) := ⟨⟨hk9'.1, hk9'.2.2⟩, fac9⟩
              k_steps
              exact ⟨rfl, Mine.int_end rfl⟩
            case fin =>
              intro ysR hysR hlenR2
              have hRK : IntsAre ysR (RK a9 (esc d9 W9).length) := hysR.ints (fun _ _ e => e)
              clear hysR
              have hlo9 := (alpha_find hd9 two9).1
              have hhi9 := (alpha_find hd9 two9).2
              repeat' ((fail_if_success (first | (with_reducible show wpAny _ _ (eval (Expr.IfExp _ _ _ _) _) _ _ _))); (first | (k_unfold; (try dsimp only)) | (k_end; wrow_close) | walk1 | (dsimp only; walk1) | (leave1; try dsimp only) | fail "no step"))
              refine Mine.eval_same (P := fun v => ∃ t, v = .int (turnV d9 low9 high9) t) ?ev ?use
              case ev =>
                k_steps
                · exact Mine.SameBut.mk' (Mine.int_end (Mine.turn_pos (by assumption)))
                · exact Mine.SameBut.mk' (Mine.int_end (Mine.turn_neg (by assumption)))
              case use =>
                intro vT tkT hvT
                obtain ⟨tT, rfl⟩ := hvT
                repeat' ((fail_if_success (first | (with_reducible show wpAny _ _ (exec (Stmt.Assign [Expr.Name (PySem.Str.ofString "order") _] _ _) _) _ _ _))); (first | (k_unfold; (try dsimp only)) | (k_end; wrow_close) | walk1 | (dsimp only; walk1) | (leave1; try dsimp only) | fail "no step"))
                k_with_none
                k_with "ite" => first | rw [if_pos (by decide)] | rw [if_neg (by decide)] | rw [if_neg (by simp only [bne_self_eq_false, Bool.false_eq_true, not_false_eq_true])]
                k_with "subscriptTail Name BinOp ref int" => (k_here; k_dflt (refine' Mine.itemI_at ?N ?m ?i ?h0 ?hh ?hk ?_ ?hs; (case N => k_asm); (case m => k_mem); (case i => assumption); (case h0 => omega); (case hh => omega); (case hk => (show _ < 6); omega); (case hs => with_unfolding_all rfl); intro _))
                k_with "subscriptTail Name Name ref int" => (k_here; k_dflt (refine' Mine.itemI_at ?N ?m ?i ?h0 ?hh ?hk ?_ ?hs; (case N => k_asm); (case m => k_mem); (case i => assumption); (case h0 => omega); (case hh => omega); (case hk => (show _ < 6); omega); (case hs => with_unfolding_all rfl); intro _))
                k_with "exec Assign cons ListComp" => (k_here; k_dflt (refine LCg.Assign_ListComp_U (F₀ := by k_asm) (by rfl) (by with_unfolding_all rfl) (by with_unfolding_all rfl) (by decide) (by rfl) (by decide) (by rfl) (by rfl) (by rfl) ?_))
                k_with "eval ListComp" => (k_here; k_dflt (refine LCg.ListComp_U (F₀ := by k_asm) (by with_unfolding_all rfl) (by decide) (by rfl) (by decide) (by rfl) ?_))
                k_with "CompSrc" => fail "own"
                k_with "FinE" => ((unfold LCg.FinE); intro _ _ _ _ N'Z _; (try simp only [List.nil_append, List.cons_append] at N'Z); (try dsimp only))
                k_with "FinA" => ((unfold LCg.FinA); intro _ _ _ _ N'Z _; (try simp only [List.nil_append, List.cons_append] at N'Z); (try dsimp only))
                k_with "CompEnd" => (k_here; k_dflt (refine' Mine.ce_same ?F ?off ?N ?S ?_; (case off => assumption); (case F => k_asm); (case N => assumption); (case S => first | exact True.intro | exact Or.inr ⟨_, by k_mem, rfl, _, rfl⟩)))
                k_with "binaryOp Mult int int" => k_dflt (refine mul_int ?_ (Mine.tr_mul (by assumption)))
                repeat' ((fail_if_success (first | (with_reducible show wpAny _ _ (PySem.call (Value.type _) _) _ _ _))); (first | (k_unfold; (try dsimp only)) | (k_end; wrow_close) | walk1 | (dsimp only; walk1) | (leave1; try dsimp only) | fail "no step"))
                k_dflt (refine Mine.range_led (by k_asm) (by k_asm) ?_)
                intro r9 h9 tk9 t9 v9 F' N' l1
                (try simp only [List.nil_append, List.cons_append] at N')
                (try k_lt l1)
                repeat' ((fail_if_success (first | (with_reducible show wpAny _ _ (PySem.call (Value.builtin "sorted") _ _) _ _ _) | (with_reducible show wpAny _ _ (PySem.call (Value.builtin (PySem.Str.ofString "sorted")) _ _) _ _ _))); (first | (k_unfold; (try dsimp only)) | (k_end; wrow_close) | walk1 | (dsimp only; walk1) | (leave1; try dsimp only) | fail "no step"))
                k_dflt (show wpAny _ _ (PySem.call _ [Value.ref _] [(PySem.Str.ofString "key", Value.ref _)]) _ _ _)
                k_dflt (refine Mine.sorted_range (n := 6) (fun k => turnV d9 low9 high9 * (RK a9 (esc d9 W9).length).getD k.toNat 0) (by k_asm) (by k_asm) (by rfl) (Mine.range_is (by k_asm) (by k_mem)) (by decide) (by rfl) (by decide) (by ksk_a1) (by intro x'; ksk_a2) (by intro x'; ksk_a3) ?turn ?done)
                case turn =>
                  intro k9 t9 h9 tk9 own9 hk9 F' N'
                  simp only [List.nil_append, List.cons_append, List.append_nil] at N'
                  k_steps
                case done =>
                  intro D9 vo9 no9 c9' h9 tk9 F' N' l1 hO9 hperm9 hsort9
                  try k_lt l1
                  repeat' ((fail_if_success (first | (with_reducible show exec (Stmt.If _ _ _ _) _) | (with_reducible show wpAny _ _ (exec (Stmt.If _ _ _ _) _) _ _ _))); (first | (k_unfold; (try dsimp only)) | (k_end; wrow_close) | walk1 | (dsimp only; walk1) | (leave1; try dsimp only) | fail "no step"))
                  (rename News _ _ _ ((D9, _) :: _) => N8)
                  replace N8 := Mine.news_drop3 N8
                  k_with_none
                  k_with "ite" => first | rw [if_pos (by decide)] | rw [if_neg (by decide)] | rw [if_neg (by simp only [bne_self_eq_false, Bool.false_eq_true, not_false_eq_true])]
                  k_with "subscriptTail Name Name ref int" => (k_here; k_dflt (refine' Mine.itemS_at ?N ?m ?i ?h0 ?hh ?hk ?_ ?hs; (case N => k_asm); (case m => k_mem); (case i => assumption); (case h0 => omega); (case hh => omega); (case hk => exact Mine.txt_get (by omega)); (case hs => with_unfolding_all rfl); intro _))
                  k_with "exec Assign cons ListComp" => (k_here; k_dflt (refine LCg.Assign_ListComp_U (F₀ := by k_asm) (by rfl) (by with_unfolding_all rfl) (by with_unfolding_all rfl) (by decide) (by rfl) (by decide) (by rfl) (by rfl) (by rfl) ?_))
                  k_with "eval ListComp" => (k_here; k_dflt (refine LCg.ListComp_U (F₀ := by k_asm) (by with_unfolding_all rfl) (by decide) (by rfl) (by decide) (by rfl) ?_))
                  k_with "CompSrc" => fail "own"
                  k_with "FinE" => ((unfold LCg.FinE); intro _ _ _ _ N'Z _; (try simp only [List.nil_append, List.cons_append] at N'Z); (try dsimp only))
                  k_with "FinA" => ((unfold LCg.FinA); intro _ _ _ _ N'Z _; (try simp only [List.nil_append, List.cons_append] at N'Z); (try dsimp only))
                  k_with "CompEnd" => (k_here; k_dflt (refine' Mine.ce_same ?F ?off ?N ?S ?_; (case off => assumption); (case F => k_asm); (case N => assumption); (case S => first | exact True.intro | exact Or.inr ⟨_, by k_mem, rfl, _, rfl⟩)))
                  k_with "compareOp NotEq ref ref" => (k_here; k_dflt (refine' Mine.ne_strsK ?k1 ?k2 ?k3 ?k4 ?ok ?k5 ?_; (case k1 => is_list); (case k2 => assumption); (case k3 => is_list); (case k4 => assumption); (case ok => assumption); (case k5 => units_room)))
                  k_with "call ref" => (k_here; k_dflt (refine' Mine.clm_use (Mine.strxfrm_C _ _ _ _ _ _ _ _ _) ?k1 ?k2 ?k3 ?k4 ?k5 ?kK ?kp ?kd ?ku ?_; (case k1 => k_asm); (case k2 => k_asm); (case k3 => k_asm); (case k4 => k_asm); (case k5 => k_asm); (case kK => first | exact rfl | assumption); (case kp => first | trivial | assumption | omega | l_fact); (case kd => ktr_room); (case ku => ktr_units)); intro _ _ _ _ _; (try dsimp only); (try k_fold))
                  repeat' ((fail_if_success (first | (with_reducible show wpAny _ _ (PySem.call (Value.builtin "sorted") _ _) _ _ _) | (with_reducible show wpAny _ _ (PySem.call (Value.builtin (PySem.Str.ofString "sorted")) _ _) _ _ _))); (first | (k_unfold; (try dsimp only)) | (k_end; wrow_close) | walk1 | (dsimp only; walk1) | (leave1; try dsimp only) | fail "no step"))
                  k_dflt (show wpAny _ _ (PySem.call _ [Value.ref _] [(PySem.Str.ofString "key", Value.ref _)]) _ _ _)
                  k_dflt (refine Mine.sorted_same (ss := (List.range 6).map (txt d9 S9)) (by k_asm) (by k_asm) (by is_list) (by assumption) (by rw [List.length_map, List.length_range]; decide) (by rw [List.length_map, List.length_range]; decide) (by ksk_a1) (by intro x'; ksk_a2) (by intro x'; ksk_a3) ?turn ?done)
                  case turn =>
                    intro x9 t9 h9 tk9 own9 hx9 F' N'
                    simp only [List.nil_append, List.cons_append, List.append_nil] at N'
                    k_steps
                    exact ⟨_, _, rfl, rfl, by assumption, by assumption⟩
                  case done =>
                    intro D8 vo8 so8 c8' h9 tk9 F' N' l1 hO8 hperm8 hsort8
                    try k_lt l1
                    have hE8 : no9.map (fun k => txt d9 S9 k.toNat) = so8 := by
                      rw [eS9] at hperm8 ⊢
                      exact Mine.order_eq hd9 two9 ha9 fac9 hperm9 hsort9 hperm8 hsort8
                    subst hE8
                    have hok7 : ∀ y ∈ no9.map (fun k => txt d9 S9 k.toNat), PyData.strOk y = true := fun y hy => hok8 y (hperm8.mem_iff.mp hy)
                    have hlenO := hO9.length
                    have hlenN := hperm9.length_eq
                    repeat' ((fail_if_success (first | (with_reducible show LCg.CompSrc _ _ _ _ _ _ _ _ _ _ _ _ _ _))); (first | (k_unfold; (try dsimp only)) | (k_end; wrow_close) | walk1 | (dsimp only; walk1) | (leave1; try dsimp only) | fail "no step"))
                    refine LCg.CompSrc.ledger (its := vo9.toArray) (by rfl) (by k_asm) (by k_asm) (by k_mem) (by rw [List.size_toArray, hlenO, hlenN]; exact Nat.le_of_ble_eq_true rfl) ?_
                    intro g9
                    refine rest_map (ks := no9) (fun k v => ∃ t, v = .int k t) (fun k y => ∃ t, y = .str (txt d9 S9 k.toNat) t) (by rw [List.size_toArray, hlenO]) (fun i v hi hv => ints_atA hO9 hv) ?turn ?fin
                    case turn =>
                      intro k9 v I' oI' C' oC' D' m2' ys' h9 tk9 E9 hk9 henc hC' hx' F' N' off' ne'
                      obtain ⟨u9, rfl⟩ := henc
                      have off9 := off'
                      clear off'
                      have hk9' := Mine.order_mem hperm9 hk9
                      k_steps
                      exact ⟨rfl, Mine.str_end rfl⟩
                    case fin =>
                      intro ys7 hys7 hlen7
                      have hT7 : StrsAre ys7 (no9.map (fun k => txt d9 S9 k.toNat)) := hys7.strs (fun _ _ e => e)
                      clear hys7
                      repeat' ((fail_if_success (first | (with_reducible show wpAny _ _ (exec (Stmt.For _ _ _ _ _) _) _ _ _))); (first | (k_unfold; (try dsimp only)) | (k_end; wrow_close) | walk1 | (dsimp only; walk1) | (leave1; try dsimp only) | fail "no step"))
                      (rename News _ _ _ ((_, LCg.lst ys7) :: _) => N8)
                      replace N8 := Mine.news_tail (Mine.news_tail N8)
                      clear hT7 hlen7
                      k_with_none
                      k_with "ite" => first | rw [if_pos (by decide)] | rw [if_neg (by decide)] | rw [if_neg (by simp only [bne_self_eq_false, Bool.false_eq_true, not_false_eq_true])]
                      k_with "subscriptTail Name BinOp ref int" => (k_here; k_dflt (refine' Mine.itemI_at ?N ?m ?i ?h0 ?hh ?hk ?_ ?hs; (case N => k_asm); (case m => k_mem); (case i => assumption); (case h0 => omega); (case hh => omega); (case hk => (show _ < 6); omega); (case hs => with_unfolding_all rfl); intro _))
                      k_with "subscriptTail Name Name ref int" => (k_here; k_dflt (refine' Mine.itemI_at ?N ?m ?i ?h0 ?hh ?hk ?_ ?hs; (case N => k_asm); (case m => k_mem); (case i => assumption); (case h0 => omega); (case hh => omega); (case hk => (show _ < 6); omega); (case hs => with_unfolding_all rfl); intro _))
                      k_with "exec Assign cons ListComp" => (k_here; k_dflt (refine LCg.Assign_ListComp_U (F₀ := by k_asm) (by rfl) (by with_unfolding_all rfl) (by with_unfolding_all rfl) (by decide) (by rfl) (by decide) (by rfl) (by rfl) (by rfl) ?_))
                      k_with "eval ListComp" => (k_here; k_dflt (refine LCg.ListComp_U (F₀ := by k_asm) (by with_unfolding_all rfl) (by decide) (by rfl) (by decide) (by rfl) ?_))
                      k_with "CompSrc" => fail "own"
                      k_with "FinE" => ((unfold LCg.FinE); intro _ _ _ _ N'Z _; (try simp only [List.nil_append, List.cons_append] at N'Z); (try dsimp only))
                      k_with "FinA" => ((unfold LCg.FinA); intro _ _ _ _ N'Z _; (try simp only [List.nil_append, List.cons_append] at N'Z); (try dsimp only))
                      k_with "CompEnd" => (k_here; k_dflt (refine' Mine.ce_same ?F ?off ?N ?S ?_; (case off => assumption); (case F => k_asm); (case N => assumption); (case S => first | exact True.intro | exact Or.inr ⟨_, by k_mem, rfl, _, rfl⟩)))
                      k_with "compareOp NotEq ref ref" => (k_here; k_dflt (refine' Mine.ne_strsK ?k1 ?k2 ?k3 ?k4 ?ok ?k5 ?_; (case k1 => is_list); (case k2 => assumption); (case k3 => is_list); (case k4 => assumption); (case ok => assumption); (case k5 => units_room)))
                      k_with "call ref" => (k_here; k_dflt (refine' Mine.clm_use (Mine.strcoll_C _ _ _ _ _ _ _ _ _ _ _) ?k1 ?k2 ?k3 ?k4 ?k5 ?kK ?kp ?kd ?ku ?_; (case k1 => k_asm); (case k2 => k_asm); (case k3 => k_asm); (case k4 => k_asm); (case k5 => k_asm); (case kK => first | exact rfl | assumption); (case kp => first | trivial | assumption | omega | l_fact); (case kd => ktr_room); (case ku => ktr_units)); intro _ _ _ _ _; (try dsimp only); (try k_fold))
                      repeat' ((fail_if_success (first | (with_reducible show wpAny _ _ (pyIter _) _ _ _))); (first | (k_unfold; (try dsimp only)) | (k_end; wrow_close) | walk1 | (dsimp only; walk1) | (leave1; try dsimp only) | fail "no step"))
                      (rename IsRange _ _ 0 6 _ _ _ _ => hR8)
                      k_with_none
                      k_with "ite" => first | rw [if_pos (by decide)] | rw [if_neg (by decide)] | rw [if_neg (by simp only [bne_self_eq_false, Bool.false_eq_true, not_false_eq_true])]
                      k_with "subscriptTail Name BinOp ref int" => (k_here; k_dflt (refine' Mine.itemI_at ?N ?m ?i ?h0 ?hh ?hk ?_ ?hs; (case N => k_asm); (case m => k_mem); (case i => assumption); (case h0 => omega); (case hh => omega); (case hk => (show _ < 6); omega); (case hs => with_unfolding_all rfl); intro _))
                      k_with "subscriptTail Name Name ref int" => (k_here; k_dflt (refine' Mine.itemI_at ?N ?m ?i ?h0 ?hh ?hk ?_ ?hs; (case N => k_asm); (case m => k_mem); (case i => assumption); (case h0 => omega); (case hh => omega); (case hk => (show _ < 6); omega); (case hs => with_unfolding_all rfl); intro _))
                      k_with "exec Assign cons ListComp" => (k_here; k_dflt (refine LCg.Assign_ListComp_U (F₀ := by k_asm) (by rfl) (by with_unfolding_all rfl) (by with_unfolding_all rfl) (by decide) (by rfl) (by decide) (by rfl) (by rfl) (by rfl) ?_))
                      k_with "eval ListComp" => (k_here; k_dflt (refine LCg.ListComp_U (F₀ := by k_asm) (by with_unfolding_all rfl) (by decide) (by rfl) (by decide) (by rfl) ?_))
                      k_with "CompSrc" => fail "own"
                      k_with "FinE" => ((unfold LCg.FinE); intro _ _ _ _ N'Z _; (try simp only [List.nil_append, List.cons_append] at N'Z); (try dsimp only))
                      k_with "FinA" => ((unfold LCg.FinA); intro _ _ _ _ N'Z _; (try simp only [List.nil_append, List.cons_append] at N'Z); (try dsimp only))
                      k_with "CompEnd" => (k_here; k_dflt (refine' Mine.ce_same ?F ?off ?N ?S ?_; (case off => assumption); (case F => k_asm); (case N => assumption); (case S => first | exact True.intro | exact Or.inr ⟨_, by k_mem, rfl, _, rfl⟩)))
                      k_with "compareOp NotEq ref ref" => (k_here; k_dflt (refine' Mine.ne_strsK ?k1 ?k2 ?k3 ?k4 ?ok ?k5 ?_; (case k1 => is_list); (case k2 => assumption); (case k3 => is_list); (case k4 => assumption); (case ok => assumption); (case k5 => units_room)))
                      k_with "call ref" => (k_here; k_dflt (refine' Mine.clm_use (Mine.strcoll_C _ _ _ _ _ _ _ _ _ _ _) ?k1 ?k2 ?k3 ?k4 ?k5 ?kK ?kp ?kd ?ku ?_; (case k1 => k_asm); (case k2 => k_asm); (case k3 => k_asm); (case k4 => k_asm); (case k5 => k_asm); (case kK => first | exact rfl | assumption); (case kp => first | trivial | assumption | omega | l_fact); (case kd => ktr_room); (case ku => ktr_units)); intro _ _ _ _ _; (try dsimp only); (try k_fold))
                      (rename Fr _ _ _ _ => F'); (rename News _ _ _ _ => N')
                      refine iter_rangeN 6 (JL _ _) (by rfl) hR8 (by decide) (by rfl) F' N' ⟨rfl, rfl⟩ ?turn ?done
                      case done =>
                        intro m1 nx h1 tk1 hJ F' N'
                        obtain ⟨hp1, rfl⟩ := hJ
                        rw [Mine.map_p hp1] at F'
                        k_steps
                      case turn =>
                        intro i9 t1 m1 nx h1 tk1 own hi9 hoff hJ F' N'
                        obtain ⟨hp1, rfl⟩ := hJ
                        rw [Mine.map_p hp1] at F'
                        repeat' ((fail_if_success (first | (with_reducible show wpAny _ _ (pyIter _) _ _ _))); (first | (k_unfold; (try dsimp only)) | (k_end; wrow_close) | walk1 | (dsimp only; walk1) | (leave1; try dsimp only) | fail "no step"))
                        (rename IsRange _ _ 0 6 _ _ _ _ => hR7); (rename Fr _ _ _ _ => F'); (rename News _ _ _ _ => N')
                        refine iter_rangeN 6 (JM _ _ _) (by rfl) hR7 (by decide) (by rfl) F' N' ⟨rfl, rfl, rfl⟩ ?turn2 ?done2
                        case done2 =>
                          intro m2 nx2 h2 tk2 hJ2 F' N'
                          obtain ⟨ho2, hp2, rfl⟩ := hJ2
                          rw [Mine.map_op ho2 hp2] at F'
                          k_steps
                          exact InvEndN.intro (by k_asm) (by k_asm) ⟨rfl, rfl⟩ rfl (fun p hp => List.mem_append_left _ hp) (fun p hp => List.mem_append_right _ hp)
                        case turn2 =>
                          intro j9 t2 m2 nx2 h2 tk2 own2 hj9 hoff2 hJ2 F' N'
                          obtain ⟨ho2, hp2, rfl⟩ := hJ2
                          rw [Mine.map_op ho2 hp2] at F'
                          k_with_none
                          k_with "ite" => first | rw [if_pos (by decide)] | rw [if_neg (by decide)] | rw [if_neg (by simp only [bne_self_eq_false, Bool.false_eq_true, not_false_eq_true])]
                          k_with "subscriptTail Name Name ref int" => (k_here; k_dflt (refine' Mine.rk_at ?N ?m ?i ?hk ?_ ?hs; (case N => k_asm); (case m => k_mem); (case i => assumption); (case hk => assumption); (case hs => with_unfolding_all rfl)); intro _)
                          k_with "subscriptTail Name Name ref int" => (k_here; k_dflt (refine' Mine.pg_at ?N ?m ?i ?hk ?_ ?hs; (case N => k_asm); (case m => k_mem); (case i => assumption); (case hk => assumption); (case hs => with_unfolding_all rfl)); intro _)
                          k_with "subscriptTail Name Name ref int" => (k_here; k_dflt (refine' Mine.tx_at ?N ?m ?i ?hk ?_ ?hs; (case N => k_asm); (case m => k_mem); (case i => assumption); (case hk => assumption); (case hs => with_unfolding_all rfl)); intro _)
                          k_with "exec Assign cons ListComp" => (k_here; k_dflt (refine LCg.Assign_ListComp_U (F₀ := by k_asm) (by rfl) (by with_unfolding_all rfl) (by with_unfolding_all rfl) (by decide) (by rfl) (by decide) (by rfl) (by rfl) (by rfl) ?_))
                          k_with "eval ListComp" => (k_here; k_dflt (refine LCg.ListComp_U (F₀ := by k_asm) (by with_unfolding_all rfl) (by decide) (by rfl) (by decide) (by rfl) ?_))
                          k_with "CompSrc" => fail "own"
                          k_with "FinE" => ((unfold LCg.FinE); intro _ _ _ _ N'Z _; (try simp only [List.nil_append, List.cons_append] at N'Z); (try dsimp only))
                          k_with "FinA" => ((unfold LCg.FinA); intro _ _ _ _ N'Z _; (try simp only [List.nil_append, List.cons_append] at N'Z); (try dsimp only))
                          k_with "CompEnd" => (k_here; k_dflt (refine' Mine.ce_same ?F ?off ?N ?S ?_; (case off => assumption); (case F => k_asm); (case N => assumption); (case S => first | exact True.intro | exact Or.inr ⟨_, by k_mem, rfl, _, rfl⟩)))
                          k_with "compareOp NotEq ref ref" => (k_here; k_dflt (refine' Mine.ne_strsK ?k1 ?k2 ?k3 ?k4 ?ok ?k5 ?_; (case k1 => is_list); (case k2 => assumption); (case k3 => is_list); (case k4 => assumption); (case ok => assumption); (case k5 => units_room)))
                          k_with "binaryOp Mult int int" => ((with_reducible show wpAny _ _ (binaryOp _ (Value.int _ _) (Value.int (0 : Int) _)) _ _ _); k_dflt (refine mul_int ?_ (Mine.tr_mulc (by decide))))
                          k_with "binaryOp Mult int int" => ((with_reducible show wpAny _ _ (binaryOp _ (Value.int _ _) (Value.int (1 : Int) _)) _ _ _); k_dflt (refine mul_int ?_ (Mine.tr_mulc (by decide))))
                          k_with "binaryOp Mult int int" => ((with_reducible show wpAny _ _ (binaryOp _ (Value.int _ _) (Value.int (-1 : Int) _)) _ _ _); k_dflt (refine mul_int ?_ (Mine.tr_mulc (by decide))))
                          k_with "ite" => (have hq := hD9; clear hq; rw [if_neg (by simp only [hD9, bne_self_eq_false, Bool.false_eq_true, not_false_eq_true])])
                          k_with "ite" => (have hq := hS9; clear hq; rw [if_neg (by simp only [hS9, bne_self_eq_false, Bool.false_eq_true, not_false_eq_true])])
                          k_with "call ref" => (k_here; k_dflt (refine' Mine.clm_use (Mine.strcoll_C _ _ _ _ _ _ _ _ _ _ _) ?k1 ?k2 ?k3 ?k4 ?k5 ?kK ?kp ?kd ?ku ?_; (case k1 => k_asm); (case k2 => k_asm); (case k3 => k_asm); (case k4 => k_asm); (case k5 => k_asm); (case kK => first | exact rfl | assumption); (case kp => first | trivial | assumption | omega | l_fact); (case kd => ktr_room); (case ku => ktr_units)); intro _ _ _ _ _; (try dsimp only); (try k_fold))
                          have hC9 := Mine.coll_txt hd9 two9 ha9 fac9 hi9 hj9
                          rw [← eS9] at hC9
                          have hbi9 := Mine.pg_bd ha9 fac9 hi9
                          have hbj9 := Mine.pg_bd ha9 fac9 hj9
                          repeat' ((fail_if_success (first | (with_reducible show wpAny _ _ (exec (Stmt.If (Expr.Compare (Expr.Call _ _ _ _) _ _ _) _ _ _) _) _ _ _))); (first | (k_unfold; (try dsimp only)) | (k_end; wrow_close) | walk1 | (dsimp only; walk1) | (leave1; try dsimp only) | fail "no step"))
                          · (rename _ < rankV _ _ => hlt9); (rename rankV _ _ ≠ rankV _ _ => hne9)
                            have hD9 := hC9.trans (congrArg _ (Mine.due_pos hlt9))
                            have hS9 := (Mine.coll_str ha9 fac9 hi9 hj9 hne9).trans (Mine.due_pos hlt9)
                            k_steps
                            exact InvEndN.intro (by k_asm) (by k_asm) ⟨rfl, rfl, rfl⟩ rfl (fun p hp => List.mem_append_left _ hp) (fun p hp => List.mem_append_right _ hp)
                          · (rename ¬ _ < rankV _ _ => hlt9); (rename rankV _ _ ≠ rankV _ _ => hne9)
                            have hD9 := hC9.trans (congrArg _ (Mine.due_neg hne9 hlt9))
                            have hS9 := (Mine.coll_str ha9 fac9 hi9 hj9 hne9).trans (Mine.due_neg hne9 hlt9)
                            k_steps
                            exact InvEndN.intro (by k_asm) (by k_asm) ⟨rfl, rfl, rfl⟩ rfl (fun p hp => List.mem_append_left _ hp) (fun p hp => List.mem_append_right _ hp)
                          · (rename rankV _ _ = rankV _ _ => hne9)
                            have hD9 := hC9.trans (congrArg _ (Mine.due_same hne9))
                            k_steps
                            exact InvEndN.intro (by k_asm) (by k_asm) ⟨rfl, rfl, rfl⟩ rfl (fun p hp => List.mem_append_left _ hp) (fun p hp => List.mem_append_right _ hp))
end Mine
end
set_option maxRecDepth 100000 in
set_option maxHeartbeats 8000000 in
theorem PySem.Challenge.cw_yf0014_01_holds : PySem.Challenge.rw_yf0014_01.Holds := by
  exact Mine.law1
