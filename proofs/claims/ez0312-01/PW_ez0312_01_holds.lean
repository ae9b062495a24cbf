import PyProof.Rows.All
import Wide.All
import OpenK.AllK
import Wide.FinOn
import Lean
import PySem.Challenge.RW_ez0312_01
set_option Elab.async false
set_option rowWalk.seconds 0

/-! part Hd -/
namespace Mine
open PySem PySem.W PyProof.Rows
set_option maxRecDepth 100000 in
set_option maxHeartbeats 8000000 in
open_top hd for PySem.Challenge.rw_ez0312_01
end Mine

/-! part P1 -/
namespace Mine
open PySem PySem.W PyProof.Rows
open PySem.Builtin PySem.Builtin.Str in
def rfind4 (x y : PySem.Str) (i j : Int) : Int := match lastOccurrence x y (fromIndex x.length i) (min (fromIndex x.length j) x.length) with | some k => (k : Int) | none => -1
open PySem.Builtin PySem.Builtin.Str in
theorem gives_rfind4 (x y : PySem.Str) (i j : Int) (t u v v' : Tok) : Gives («str.rfind» ⟨[.str x t, .str y u, .int i v, .int j v'], []⟩) (.int (rfind4 x y i j)) := by
  show Gives (match lastOccurrence x y (fromIndex x.length i) (min (fromIndex x.length j) x.length) with | some i => retInt i | none => (do rule "str.rfind.not-found"; retInt (-1))) _
  unfold rfind4
  cases lastOccurrence x y (fromIndex x.length i) (min (fromIndex x.length j) x.length) with
  | none => exact .rule (.of_eq rfl)
  | some i => exact .of_eq rfl
theorem call_rfind4 {prog : Program} {w : World} {A : Around} {E : Value → Shared → Prop} {s : Shared} {x y : PySem.Str} {i j : Int} {t u v v' : Tok} {Q : Value → Shared → Prop} (hq : Q (.int (rfind4 x y i j) s.toks) { s with toks := s.toks + 1 }) :
    wpAny (model prog w) A (call (.builtin "str.rfind") [.str x t, .str y u, .int i v, .int j v']) Q E s :=
  call_gives F.slot_str_rfind (typeIs_str _ _ _) F.entry_str_rfind (F.args_str_rfind_4 _ _ _ _) (gives_rfind4 x y i j t u v v') hq
/-- what _law_at tells -/
def atF (ns : List Int) (k many : Int) : Int := if k < (ns.length : Int) then Int.fmod (if ns.getD k.toNat 0 < 0 then -ns.getD k.toNat 0 else ns.getD k.toNat 0) many else 0
theorem atF_fact (ns : List Int) (k many : Int) (h : 0 < many) : 0 ≤ atF ns k many ∧ atF ns k many < many := by
  unfold atF
  have := Int.fmod_nonneg_of_pos (if ns.getD k.toNat 0 < 0 then -ns.getD k.toNat 0 else ns.getD k.toNat 0) h
  have := Int.fmod_lt_of_pos (if ns.getD k.toNat 0 < 0 then -ns.getD k.toNat 0 else ns.getD k.toNat 0) h
  split <;> omega
/-- what splitFragP tells: the path, the fragment -/
def spP (x : PySem.Str) : PySem.Str := if 0 ≤ Txt.rfind x (Str.ofString "#") then Txt.slice x none (some (Txt.rfind x (Str.ofString "#"))) else x
def spF (x : PySem.Str) : PySem.Str := if 0 ≤ Txt.rfind x (Str.ofString "#") then Txt.slice x (some (Txt.rfind x (Str.ofString "#"))) none else Str.ofString ""
def cutF (p : PySem.Str) : PySem.Str := if (Txt.slice p none (some 2) == Str.ofString "./") = true then Txt.slice p (some 2) none else p
def loopF (bp : Int) : Nat → PySem.Str → PySem.Str → Int → PySem.Str × PySem.Str × Int
  | 0, h, p, s => (h, p, s)
  | n + 1, h, p, s =>
    if (cutF p == Str.ofString ".") = true then loopF bp n h (Str.ofString "") s
    else if (Txt.slice (cutF p) none (some 3) == Str.ofString "../") = true ∨ (cutF p == Str.ofString "..") = true then
      if 0 ≤ rfind4 h (Str.ofString "/") bp s then loopF bp n (Txt.slice h none (some (rfind4 h (Str.ofString "/") bp s + 1))) (Txt.slice (cutF p) (some 3) none) (rfind4 h (Str.ofString "/") bp s)
      else loopF bp n h (Txt.slice (cutF p) (some 3) none) s
    else (h, cutF p, s)
def LEq (bp : Int) (h p : PySem.Str) (s : Int) (h0 p0 : PySem.Str) (s0 : Int) : Prop := ∃ n, p.length < n ∧ loopF bp n h p s = loopF bp (p0.length + 1) h0 p0 s0
theorem spP_le (x : PySem.Str) : (spP x).length ≤ x.length := by
  unfold spP; split
  · exact Txt.slice_le _ _ _
  · exact Nat.le_refl _
theorem spF_le (x : PySem.Str) : (spF x).length ≤ x.length := by
  unfold spF; split
  · exact Txt.slice_le _ _ _
  · exact Nat.zero_le _
def joinF (here there : PySem.Str) : PySem.Str :=
  if (((spP there).length : Int) ≠ 0) then
    if (Txt.slice there none (some 2) == Str.ofString "//") = true then Txt.slice (if Txt.find3 here (Str.ofString "/") (Txt.find here (Str.ofString ":") + 3) < 0 then here ++ Str.ofString "/" else here) none (some (Txt.find here (Str.ofString ":") + 1)) ++ there
    else if (Txt.slice there none (some 1) == Str.ofString "/") = true then Txt.slice (if Txt.find3 here (Str.ofString "/") (Txt.find here (Str.ofString ":") + 3) < 0 then here ++ Str.ofString "/" else here) none (some (if Txt.find3 here (Str.ofString "/") (Txt.find here (Str.ofString ":") + 3) < 0 then (here.length : Int) else Txt.find3 here (Str.ofString "/") (Txt.find here (Str.ofString ":") + 3))) ++ there
    else
      let h1 := if Txt.find3 here (Str.ofString "/") (Txt.find here (Str.ofString ":") + 3) < 0 then here ++ Str.ofString "/" else here
      let R := loopF (if Txt.find3 here (Str.ofString "/") (Txt.find here (Str.ofString ":") + 3) < 0 then (here.length : Int) else Txt.find3 here (Str.ofString "/") (Txt.find here (Str.ofString ":") + 3)) ((spP there).length + 1) h1 (spP there) (Txt.rfind h1 (Str.ofString "/"))
      Txt.slice R.1 none (some (R.2.2 + 1)) ++ R.2.1 ++ spF there
  else here ++ spF there
end Mine

/-! part S1 -/
namespace Mine
open PySem PySem.W PyProof.Rows PySem.Builtin PySem.Builtin.Str
theorem idx_clip_lo (a len : Nat) (u : Option Int) : strSliceIndices (some (a : Int)) u 1 len = strSliceIndices (some ((min a len : Nat) : Int)) u 1 len := by
  have h1 : ¬ ((a : Int) < 0) := by omega
  have h2 : ¬ (((min a len : Nat) : Int) < 0) := by omega
  have e1 : max (0 : Int) (min (a : Int) (len : Int)) = max (0 : Int) (min ((min a len : Nat) : Int) (len : Int)) := by omega
  simp only [strSliceIndices, h1, h2, if_false, show ((1 : Int) > 0) = True from by simp, if_true, e1]
theorem idx_clip_hi (b len : Nat) (l : Option Int) : strSliceIndices l (some (b : Int)) 1 len = strSliceIndices l (some ((min b len : Nat) : Int)) 1 len := by
  have h1 : ¬ ((b : Int) < 0) := by omega
  have h2 : ¬ (((min b len : Nat) : Int) < 0) := by omega
  have e1 : max (0 : Int) (min (b : Int) (len : Int)) = max (0 : Int) (min ((min b len : Nat) : Int) (len : Int)) := by omega
  simp only [strSliceIndices, h1, h2, if_false, show ((1 : Int) > 0) = True from by simp, if_true, e1]
theorem idx_empty {a b len : Nat} (h : b ≤ a) : strSliceIndices (some (a : Int)) (some (b : Int)) 1 len = [] := by
  have h1 : ¬ ((a : Int) < 0) := by omega
  have h2 : ¬ ((b : Int) < 0) := by omega
  have h3 : ¬ (max (0 : Int) (min (a : Int) (len : Int)) < max (0 : Int) (min (b : Int) (len : Int))) := by omega
  simp [strSliceIndices, sliceRange, h1, h2, h3]
theorem sl_mid (x : PySem.Str) (a b : Nat) : (Txt.slice x (some (a : Int)) (some (b : Int))).cps.toList = (x.cps.toList.drop a).take (b - a) := by
  by_cases h : a ≤ b
  · have e : Txt.slice x (some (a : Int)) (some (b : Int)) = StrLaws.sliceText x (some ((min a x.length : Nat) : Int)) (some ((min b x.length : Nat) : Int)) := by
      unfold Txt.slice StrLaws.sliceText
      rw [idx_clip_lo, idx_clip_hi]
    rw [e, StrLaws.sliceText_nat x (by omega) (by omega)]
    have hl : x.cps.toList.length = x.length := by simp [PySem.Str.length]
    show List.take _ (List.drop _ _) = _
    by_cases h2 : a ≤ x.length
    · rw [Nat.min_eq_left h2]
      by_cases h3 : b ≤ x.length
      · rw [Nat.min_eq_left h3]
      · rw [Nat.min_eq_right (by omega)]
        rw [List.take_of_length_le (by rw [List.length_drop, hl]; omega), List.take_of_length_le (by rw [List.length_drop, hl]; omega)]
    · rw [Nat.min_eq_right (by omega), Nat.min_eq_right (by omega)]
      rw [List.drop_of_length_le (by omega), List.drop_of_length_le (by omega)]; simp
  · unfold Txt.slice
    rw [idx_empty (by omega)]
    have e : b - a = 0 := by omega
    rw [e]
    split
    · rename_i h1
      have : x.length = 0 := by simp at h1; omega
      have : x.cps.toList.length = 0 := by simpa [PySem.Str.length] using this
      rw [List.length_eq_zero_iff.mp this]; simp
    · simp
theorem sl_to (x : PySem.Str) (b : Nat) : (Txt.slice x none (some (b : Int))).cps.toList = x.cps.toList.take b := by
  have e : Txt.slice x none (some (b : Int)) = Txt.slice x (some ((0 : Nat) : Int)) (some (b : Int)) := by
    unfold Txt.slice; rw [StrLaws.sliceIdx_none_lo]; rfl
  rw [e, sl_mid]; simp
theorem sl_from (x : PySem.Str) (a : Nat) : (Txt.slice x (some (a : Int)) none).cps.toList = x.cps.toList.drop a := by
  have e : Txt.slice x (some (a : Int)) none = Txt.slice x (some (a : Int)) (some ((x.length : Nat) : Int)) := by
    unfold Txt.slice; rw [StrLaws.sliceIdx_none_hi]
  rw [e, sl_mid, List.take_of_length_le]
  simp [PySem.Str.length]
theorem len_ls (x : PySem.Str) : x.length = x.cps.toList.length := by simp [PySem.Str.length]
theorem str_eq_iff {x y : PySem.Str} : (x == y) = true ↔ x.cps.toList = y.cps.toList := by
  constructor
  · intro h; rw [eq_of_beq h]
  · intro h
    have : x = y := Str.ext' (by simpa using h)
    rw [this]; exact beq_self_eq_true y
theorem ofStr_dotslash : (PySem.Str.ofString "./").cps.toList = [46, 47] := by decide +kernel
theorem ofStr_dot : (PySem.Str.ofString ".").cps.toList = [46] := by decide +kernel
theorem ofStr_dd : (PySem.Str.ofString "..").cps.toList = [46, 46] := by decide +kernel
theorem ofStr_dds : (PySem.Str.ofString "../").cps.toList = [46, 46, 47] := by decide +kernel
theorem ofStr_sl : (PySem.Str.ofString "/").cps.toList = [47] := by decide +kernel
theorem ofStr_slsl : (PySem.Str.ofString "//").cps.toList = [47, 47] := by decide +kernel
theorem ofStr_col : (PySem.Str.ofString ":").cps.toList = [58] := by decide +kernel
theorem ofStr_hash : (PySem.Str.ofString "#").cps.toList = [35] := by decide +kernel
theorem ofStr_e : (PySem.Str.ofString "").cps.toList = [] := by decide +kernel
theorem ofStr_sl_len : (PySem.Str.ofString "/").length = 1 := by decide +kernel
theorem ofStr_e_len : (PySem.Str.ofString "").length = 0 := by decide +kernel
theorem cutF_le (p : PySem.Str) : (cutF p).length ≤ p.length := by
  unfold cutF; split
  · exact Txt.slice_le _ _ _
  · exact Nat.le_refl _
theorem cut_yes {p : PySem.Str} (h : (Txt.slice p none (some 2) == Str.ofString "./") = true) : cutF p = Txt.slice p (some 2) none := by unfold cutF; rw [if_pos h]
theorem cut_no {p : PySem.Str} (h : (Txt.slice p none (some 2) == Str.ofString "./") = false) : cutF p = p := by unfold cutF; rw [if_neg (by rw [h]; exact Bool.false_ne_true)]
theorem M_dot {p p1 : PySem.Str} (hc : cutF p = p1) (hd : (p1 == Str.ofString ".") = true) : (Str.ofString "").length < p.length := by
  have := cutF_le p
  have e := congrArg List.length (str_eq_iff.mp hd)
  rw [ofStr_dot, ← len_ls] at e
  have e0 : (Str.ofString "").length = 0 := by decide +kernel
  simp at e
  rw [hc] at this
  omega
theorem M_up {p p1 : PySem.Str} (hc : cutF p = p1) (hu : (Txt.slice p1 none (some 3) == Str.ofString "../") = true ∨ (p1 == Str.ofString "..") = true) : (Txt.slice p1 (some 3) none).length < p.length := by
  have h1 := cutF_le p
  rw [hc] at h1
  have e3 := congrArg List.length (sl_from p1 3)
  rw [List.length_drop, ← len_ls, ← len_ls] at e3
  have e3' : (Txt.slice p1 (some 3) none).length = p1.length - 3 := e3
  have : 2 ≤ p1.length := by
    rcases hu with hu | hu
    · have e := congrArg List.length (str_eq_iff.mp hu)
      have e2 := congrArg List.length (sl_to p1 3)
      rw [ofStr_dds] at e
      have e2' : (Txt.slice p1 none (some 3)).cps.toList.length = (List.take 3 p1.cps.toList).length := e2
      rw [e2', List.length_take, ← len_ls] at e
      simp at e; omega
    · have e := congrArg List.length (str_eq_iff.mp hu)
      rw [ofStr_dd, ← len_ls] at e
      simp at e; omega
  omega
theorem LEq_refl (bp : Int) (h p : PySem.Str) (s : Int) : LEq bp h p s h p s := ⟨p.length + 1, by omega, rfl⟩
variable {bp : Int} {h p p1 h0 p0 : PySem.Str} {s s0 : Int}
theorem LEq_dot (hL : LEq bp h p s h0 p0 s0) (hc : cutF p = p1) (hd : (p1 == Str.ofString ".") = true) : LEq bp h (Str.ofString "") s h0 p0 s0 := by
  obtain ⟨n, hn, e⟩ := hL
  have hM := M_dot hc hd
  cases n with
  | zero => omega
  | succ n =>
    refine ⟨n, by omega, ?_⟩
    rw [← e]; subst hc
    show _ = loopF bp (n + 1) h p s
    rw [loopF, if_pos hd]
theorem LEq_up (hL : LEq bp h p s h0 p0 s0) (hc : cutF p = p1) (hd : (p1 == Str.ofString ".") = false)
    (hu : (Txt.slice p1 none (some 3) == Str.ofString "../") = true ∨ (p1 == Str.ofString "..") = true) (hi : 0 ≤ rfind4 h (Str.ofString "/") bp s) :
    LEq bp (Txt.slice h none (some (rfind4 h (Str.ofString "/") bp s + 1))) (Txt.slice p1 (some 3) none) (rfind4 h (Str.ofString "/") bp s) h0 p0 s0 := by
  obtain ⟨n, hn, e⟩ := hL
  have hM := M_up hc hu
  cases n with
  | zero => omega
  | succ n =>
    refine ⟨n, by omega, ?_⟩
    rw [← e]; subst hc
    show _ = loopF bp (n + 1) h p s
    rw [loopF, if_neg (by rw [hd]; exact Bool.false_ne_true), if_pos hu, if_pos hi]
theorem LEq_up0 (hL : LEq bp h p s h0 p0 s0) (hc : cutF p = p1) (hd : (p1 == Str.ofString ".") = false)
    (hu : (Txt.slice p1 none (some 3) == Str.ofString "../") = true ∨ (p1 == Str.ofString "..") = true) (hi : ¬ 0 ≤ rfind4 h (Str.ofString "/") bp s) :
    LEq bp h (Txt.slice p1 (some 3) none) s h0 p0 s0 := by
  obtain ⟨n, hn, e⟩ := hL
  have hM := M_up hc hu
  cases n with
  | zero => omega
  | succ n =>
    refine ⟨n, by omega, ?_⟩
    rw [← e]; subst hc
    show _ = loopF bp (n + 1) h p s
    rw [loopF, if_neg (by rw [hd]; exact Bool.false_ne_true), if_pos hu, if_neg hi]
theorem LEq_end (hL : LEq bp h p s h0 p0 s0) (hc : cutF p = p1) (hd : (p1 == Str.ofString ".") = false)
    (hu : (Txt.slice p1 none (some 3) == Str.ofString "../") = false) (hu2 : (p1 == Str.ofString "..") = false) :
    loopF bp (p0.length + 1) h0 p0 s0 = (h, p1, s) := by
  obtain ⟨n, hn, e⟩ := hL
  cases n with
  | zero => omega
  | succ n =>
    rw [← e]; subst hc
    show loopF bp (n + 1) h p s = _
    rw [loopF, if_neg (by rw [hd]; exact Bool.false_ne_true), if_neg (by rw [hu, hu2]; simp)]
section
variable {here there : PySem.Str}
abbrev f3 (here : PySem.Str) : Int := Txt.find3 here (Str.ofString "/") (Txt.find here (Str.ofString ":") + 3)
theorem joinF_empty (h1 : ((spP there).length : Int) = 0) : here ++ spF there = joinF here there := by
  unfold joinF; rw [if_neg (by omega)]
theorem joinF_hostA (h1 : ((spP there).length : Int) ≠ 0) (h2 : (Txt.slice there none (some 2) == Str.ofString "//") = true) (h3 : f3 here < 0) :
    Txt.slice (here ++ Str.ofString "/") none (some (Txt.find here (Str.ofString ":") + 1)) ++ there = joinF here there := by
  unfold joinF; rw [if_pos h1, if_pos h2, if_pos h3]
theorem joinF_hostB (h1 : ((spP there).length : Int) ≠ 0) (h2 : (Txt.slice there none (some 2) == Str.ofString "//") = true) (h3 : ¬ f3 here < 0) :
    Txt.slice here none (some (Txt.find here (Str.ofString ":") + 1)) ++ there = joinF here there := by
  unfold joinF; rw [if_pos h1, if_pos h2, if_neg h3]
theorem joinF_rootA (h1 : ((spP there).length : Int) ≠ 0) (h2 : (Txt.slice there none (some 2) == Str.ofString "//") = false) (h2' : (Txt.slice there none (some 1) == Str.ofString "/") = true) (h3 : f3 here < 0) :
    Txt.slice (here ++ Str.ofString "/") none (some (here.length : Int)) ++ there = joinF here there := by
  unfold joinF; rw [if_pos h1, if_neg (by rw [h2]; exact Bool.false_ne_true), if_pos h2', if_pos h3, if_pos h3]
theorem joinF_rootB (h1 : ((spP there).length : Int) ≠ 0) (h2 : (Txt.slice there none (some 2) == Str.ofString "//") = false) (h2' : (Txt.slice there none (some 1) == Str.ofString "/") = true) (h3 : ¬ f3 here < 0) :
    Txt.slice here none (some (f3 here)) ++ there = joinF here there := by
  unfold joinF; rw [if_pos h1, if_neg (by rw [h2]; exact Bool.false_ne_true), if_pos h2', if_neg h3, if_neg h3]
theorem joinF_loopA {h p p1 : PySem.Str} {s : Int} (h1 : ((spP there).length : Int) ≠ 0) (h2 : (Txt.slice there none (some 2) == Str.ofString "//") = false) (h2' : (Txt.slice there none (some 1) == Str.ofString "/") = false) (h3 : f3 here < 0)
    (hL : LEq (here.length : Int) h p s (here ++ Str.ofString "/") (spP there) (Txt.rfind (here ++ Str.ofString "/") (Str.ofString "/"))) (hc : cutF p = p1) (hd : (p1 == Str.ofString ".") = false)
    (hu : (Txt.slice p1 none (some 3) == Str.ofString "../") = false) (hu2 : (p1 == Str.ofString "..") = false) :
    Txt.slice h none (some (s + 1)) ++ p1 ++ spF there = joinF here there := by
  have e := LEq_end hL hc hd hu hu2
  unfold joinF; rw [if_pos h1, if_neg (by rw [h2]; exact Bool.false_ne_true), if_neg (by rw [h2']; exact Bool.false_ne_true), if_pos h3, if_pos h3]
  simp only [e]
theorem joinF_loopB {h p p1 : PySem.Str} {s : Int} (h1 : ((spP there).length : Int) ≠ 0) (h2 : (Txt.slice there none (some 2) == Str.ofString "//") = false) (h2' : (Txt.slice there none (some 1) == Str.ofString "/") = false) (h3 : ¬ f3 here < 0)
    (hL : LEq (f3 here) h p s here (spP there) (Txt.rfind here (Str.ofString "/"))) (hc : cutF p = p1) (hd : (p1 == Str.ofString ".") = false)
    (hu : (Txt.slice p1 none (some 3) == Str.ofString "../") = false) (hu2 : (p1 == Str.ofString "..") = false) :
    Txt.slice h none (some (s + 1)) ++ p1 ++ spF there = joinF here there := by
  have e := LEq_end hL hc hd hu hu2
  unfold joinF; rw [if_pos h1, if_neg (by rw [h2]; exact Bool.false_ne_true), if_neg (by rw [h2']; exact Bool.false_ne_true), if_neg h3, if_neg h3]
  simp only [e]
end
abbrev lawNames : List PySem.Str := [Str.ofString "a", Str.ofString "bc", Str.ofString "d.e", Str.ofString "..f", Str.ofString "g-", Str.ofString "h%20", Str.ofString "i;k", Str.ofString "x"]
def AllN (l : List PySem.Str) : Prop := ∀ x ∈ l, x ∈ lawNames
theorem AllN_nil : AllN [] := fun _ h => nomatch h
theorem AllN_snoc {l : List PySem.Str} {x : PySem.Str} (h : AllN l) (hx : x ∈ lawNames) : AllN (l ++ [x]) := fun y hy => by
  rcases List.mem_append.mp hy with hy | hy
  · exact h y hy
  · rw [List.mem_singleton.mp hy]; exact hx
theorem getD_mem {α : Type} {l : List α} {k : Nat} {d : α} (h : k < l.length) : l.getD k d ∈ l := by
  rw [List.getD_eq_getElem?_getD, List.getElem?_eq_getElem h]; exact List.getElem_mem h
theorem names_mem {k : Nat} (h : k < 8) : lawNames.getD k PySem.Str.empty ∈ lawNames := getD_mem h
end Mine

/-! part C1 -/
namespace Mine
open PySem PySem.W PyProof.Rows
theorem reset_C1 : True := by
  w_top off
  k_with_none
  trivial
section
variable {w : World} {mean : ExcName → Option Value} {mg mb : PySem.Str → Option Value} {news : List (Addr × Obj)}
  {dp un : Nat} {gd : Option (List Code)} {cn : PySem.Str} {cs : Scope} {a : Addr} {ccd : Value} {cl : List (PySem.Str × Addr)} {outer : List Env} {A₀ : Around} {base h₀ : Heap} {L : Addr} {m : PySem.Str → Option Value} {s : Shared} {Q E : Value → Shared → Prop}
set_option maxRecDepth 100000 in
set_option maxHeartbeats 8000000 in
theorem at_call {l : Addr} {vs : List Value} {ns : List Int} {k many : Int} {tk tm : Tok}
    (B : Below A₀ base outer h₀) (F : Fr h₀ L s.heap m) (X : (hd.heap_39 w.params).In h₀) (N : News h₀ L s.heap news)
    (T : Top hd.view_39 (looseW hd.view_39 [Str.ofString "splitFragP", Str.ofString "_law_names"]) mean mg mb h₀) (hk : cs.kind = .function)
    (hl : base.IsList l vs.toArray) (hi : IntsAre vs ns) (hfit : ns.length < 2 ^ 62) (h0 : 0 ≤ k) (hm : 0 < many)
    (hdp : dp + 1 < recursionLimit) (hun : un + 8 < cLine)
    (hret : ∀ (t : Tok) (h' : Heap) (tk' : Nat), 0 ≤ atF ns k many → atF ns k many < many → Fr h₀ L h' m → News h₀ L h' news → Q (.int (atF ns k many) t) { s with heap := h', toks := tk' }) :
    wpAny (model PySem.Challenge.rw_ez0312_01.row.prog w) (ktrTop dp un gd cn cs L a ccd cl outer) (call (.ref 37) [.ref l, .int k tk, .int many tm]) Q E s := by
  revert X; k_fill; intro X
  obtain ⟨hf1, hf2⟩ := atF_fact ns k many hm
  replace hret := fun t h' tk' => hret t h' tk' hf1 hf2
  clear hf1 hf2
  refine wpAny_call ?_
  k_dflt cell_enter
  k_steps
  · exact cb_retI hret (by simp only [atF, if_pos (by assumption : k < (ns.length : Int))]) (by assumption) (by assumption)
  · exact cb_retI hret (by simp only [atF, if_neg (by assumption : ¬ k < (ns.length : Int))]) (by assumption) (by assumption)
abbrev tup2 (x y : Value) (c : Nat) : Obj := { cls := .type "tuple", data := .seq #[x, y] c }
set_option maxRecDepth 100000 in
set_option maxHeartbeats 8000000 in
theorem split_call {x : PySem.Str} {t : Tok}
    (B : Below A₀ base outer h₀) (F : Fr h₀ L s.heap m) (X : (hd.heap_39 w.params).In h₀) (N : News h₀ L s.heap news)
    (T : Top hd.view_39 (looseW hd.view_39 [Str.ofString "splitFragP", Str.ofString "_law_names"]) mean mg mb h₀) (hk : cs.kind = .function)
    (hx : x.length ≤ 4000)
    (hdp : dp + 1 < recursionLimit) (hun : un + 8 < cLine)
    (hret : ∀ (D : Addr) (t1 t2 : Tok) (c : Nat) (h' : Heap) (tk' : Nat), (spP x).length ≤ x.length → (spF x).length ≤ x.length → Fr h₀ L h' m → News h₀ L h' ((D, tup2 (.str (spP x) t1) (.str (spF x) t2) c) :: news) → (∀ p ∈ news, p.1 < D) → Q (.ref D) { s with heap := h', toks := tk' }) :
    wpAny (model PySem.Challenge.rw_ez0312_01.row.prog w) (ktrTop dp un gd cn cs L a ccd cl outer) (call (.ref 22) [.str x t]) Q E s := by
  replace hret := fun D t1 t2 c h' tk' => hret D t1 t2 c h' tk' (spP_le x) (spF_le x)
  revert X; k_fill; intro X
  refine wpAny_call ?_
  k_dflt (refine' code_def ?k1 ?k2 ?k3 ?k4 ?k5 ?kA ?kF ?kK ?k6 ?k7 ?k8 ?k9 ?kB ?_ ?c2 ?c3 ?c4 ?c5; (case kA => exact rfl); (case kF => exact rfl); (case kK => first | exact rfl | assumption); (case k1 => k_asm); (case k2 => k_asm); (case k3 => k_asm); (case k4 => k_asm); (case k5 => k_asm); (case k6 => k_is); (case k7 => k_is); (case k8 => ktr_room); (case k9 => first | exact BindsTo.of_eq rfl | exact binds_K (by k_in) rfl (by k_is) rfl rfl rfl); (case c5 => decide); (case kB => exact locs rfl); (case c2 => exact rfl); (case c3 => exact rfl); (case c4 => exact rfl); k_whole; intro g' L' h' FG' F' N' B' X' T'; (try dsimp only); (try k_lift B'); (try k_fold))
  k_steps
  · have e1 : spP x = Txt.slice x none (some (Txt.rfind x (Str.ofString "#"))) := by simp only [spP, if_pos (by assumption : 0 ≤ Txt.rfind x (Str.ofString "#"))]
    have e2 : spF x = Txt.slice x (some (Txt.rfind x (Str.ofString "#"))) none := by simp only [spF, if_pos (by assumption : 0 ≤ Txt.rfind x (Str.ofString "#"))]
    rw [e1, e2] at hret
    exact hret _ _ _ _ _ _ (by assumption) (by assumption) (by assumption)
  · have e1 : spP x = x := by simp only [spP, if_neg (by assumption : ¬ 0 ≤ Txt.rfind x (Str.ofString "#"))]
    have e2 : spF x = Str.ofString "" := by simp only [spF, if_neg (by assumption : ¬ 0 ≤ Txt.rfind x (Str.ofString "#"))]
    rw [e1, e2] at hret
    exact hret _ _ _ _ _ _ (by assumption) (by assumption) (by assumption)
end
end Mine

/-! part C2 -/
namespace Mine
open PySem PySem.W PyProof.Rows
theorem reset_C2 : True := by
  w_top off
  k_with_none
  trivial
local macro_rules | `(tactic| walk_at "call builtin:str.rfind") => `(tactic| ((with_reducible show wpAny _ _ (call (Value.builtin "str.rfind") [Value.str _ _, Value.str _ _, Value.int _ _, Value.int _ _]) _ _ _); refine call_rfind4 ?_))
local macro_rules | `(tactic| walk_at "call ref") => `(tactic| (k_here; (with_reducible show wpAny _ _ (call (Value.ref 22) _) _ _ _); refine' split_call ?k1 ?k2 ?k3 ?k4 ?k5 ?k6 ?k7 ?k8 ?k9 ?_; (case k1 => k_asm); (case k2 => k_asm); (case k3 => k_asm); (case k4 => k_asm); (case k5 => k_asm); (case k6 => first | exact rfl | assumption); (case k7 => omega); (case k8 => ktr_room); (case k9 => ktr_units); intro D' t1' t2' c' h' tk' q1' q2' F' N' l1; dsimp only [tup2] at N'))
local macro_rules | `(tactic| walk_at "KswEnd") => `(tactic| ((rename News _ _ _ _ => nE'); (refine ksw_end ⟨_, _, _, _, _, _⟩ (by assumption) nE' (fun p hp => hp) (by kst_facts) (by kst_all) (by ksw_same) (by kst_p) (by ksw_less))))
section
variable {w : World} {mean : ExcName → Option Value} {mg mb : PySem.Str → Option Value} {news : List (Addr × Obj)}
  {dp un : Nat} {gd : Option (List Code)} {cn : PySem.Str} {cs : Scope} {a : Addr} {ccd : Value} {cl : List (PySem.Str × Addr)} {outer : List Env} {A₀ : Around} {base h₀ : Heap} {L : Addr} {m : PySem.Str → Option Value} {s : Shared} {Q E : Value → Shared → Prop}
set_option maxRecDepth 100000 in
set_option maxHeartbeats 4000000 in
theorem join_call {here there : PySem.Str} {th tt : Tok}
    (B : Below A₀ base outer h₀) (F : Fr h₀ L s.heap m) (X : (hd.heap_39 w.params).In h₀) (N : News h₀ L s.heap news)
    (T : Top hd.view_39 (looseW hd.view_39 [Str.ofString "splitFragP", Str.ofString "_law_names"]) mean mg mb h₀) (hk : cs.kind = .function)
    (hl1 : here.length ≤ 2000) (hl2 : there.length ≤ 2000) (hna : ¬ 0 ≤ Txt.find there (Str.ofString ":")) (hcol : 0 ≤ Txt.find here (Str.ofString ":"))
    (hs1 : (Txt.slice here (some (Txt.find here (Str.ofString ":") + 1)) (some (Txt.find here (Str.ofString ":") + 2)) != Str.ofString "/") = false)
    (hs2 : (Txt.slice here (some (Txt.find here (Str.ofString ":") + 1)) (some (Txt.find here (Str.ofString ":") + 3)) == Str.ofString "//") = true)
    (hdp : dp + 2 < recursionLimit) (hun : un + 16 < cLine)
    (hret : ∀ (t : Tok) (h' : Heap) (tk' : Nat), Fr h₀ L h' m → News h₀ L h' news → Q (.str (joinF here there) t) { s with heap := h', toks := tk' }) :
    wpAny (model PySem.Challenge.rw_ez0312_01.row.prog w) (ktrTop dp un gd cn cs L a ccd cl outer) (call (.ref 29) [.str here th, .str there tt]) Q E s := by
  revert X; k_fill; intro X
  refine wpAny_call ?_
  k_dflt cell_enter
  k_with "exec While Constant cons nil" => k_while_given ["bpath", "here!", "path!", "slashr!"] (fun bp h0 p0 s0 _ h p s => h.length ≤ 2001 ∧ p.length ≤ 2000 ∧ LEq bp h p s h0 p0 s0) (fun _ _ _ _ _ _ p _ => p.length) "here" "path" "slashr"
  k_with "state" => exact ⟨by first | omega | (simp only [ofStr_sl_len] at *; omega), by first | omega | (rw [ofStr_e_len]; omega), by first
    | exact LEq_refl _ _ _ _
    | exact LEq_dot (by with_reducible assumption) (cut_yes (by with_reducible assumption)) (by with_reducible assumption)
    | exact LEq_dot (by with_reducible assumption) (cut_no (by with_reducible assumption)) (by with_reducible assumption)
    | exact LEq_up (by with_reducible assumption) (by first | exact cut_yes (by with_reducible assumption) | exact cut_no (by with_reducible assumption)) (by with_reducible assumption) (by first | exact .inl (by with_reducible assumption) | exact .inr (by with_reducible assumption)) (by with_reducible assumption)
    | exact LEq_up0 (by with_reducible assumption) (by first | exact cut_yes (by with_reducible assumption) | exact cut_no (by with_reducible assumption)) (by with_reducible assumption) (by first | exact .inl (by with_reducible assumption) | exact .inr (by with_reducible assumption)) (by with_reducible assumption)⟩
  k_with "measure" => first
    | exact M_dot (cut_yes (by with_reducible assumption)) (by with_reducible assumption)
    | exact M_dot (cut_no (by with_reducible assumption)) (by with_reducible assumption)
    | exact M_up (by first | exact cut_yes (by with_reducible assumption) | exact cut_no (by with_reducible assumption)) (by first | exact .inl (by with_reducible assumption) | exact .inr (by with_reducible assumption))
  k_steps
  all_goals ((rename Fr _ _ _ _ => kF9); (rename News _ _ _ _ => kN9); (refine cb_retS hret ?_ kF9 (cb_drop kN9 (fun p hp => List.Mem.tail _ hp))); clear kF9 kN9)
  all_goals first
    | with_reducible exact joinF_empty (by with_reducible assumption)
    | with_reducible exact joinF_hostA (by with_reducible assumption) (by with_reducible assumption) (by with_reducible assumption)
    | with_reducible exact joinF_hostB (by with_reducible assumption) (by with_reducible assumption) (by with_reducible assumption)
    | with_reducible exact joinF_rootA (by with_reducible assumption) (by with_reducible assumption) (by with_reducible assumption) (by with_reducible assumption)
    | with_reducible exact joinF_rootB (by with_reducible assumption) (by with_reducible assumption) (by with_reducible assumption) (by with_reducible assumption)
    | with_reducible exact joinF_loopA (by with_reducible assumption) (by with_reducible assumption) (by with_reducible assumption) (by with_reducible assumption) (by with_reducible assumption) (by first | with_reducible exact cut_yes (by with_reducible assumption) | with_reducible exact cut_no (by with_reducible assumption)) (by with_reducible assumption) (by with_reducible assumption) (by with_reducible assumption)
    | with_reducible exact joinF_loopB (by with_reducible assumption) (by with_reducible assumption) (by with_reducible assumption) (by with_reducible assumption) (by with_reducible assumption) (by first | with_reducible exact cut_yes (by with_reducible assumption) | with_reducible exact cut_no (by with_reducible assumption)) (by with_reducible assumption) (by with_reducible assumption) (by with_reducible assumption)
end
end Mine

/-! part C3 -/
namespace Mine
open PySem PySem.W PyProof.Rows
theorem reset_C3 : True := by
  w_top off
  k_with_none
  trivial
local macro_rules | `(tactic| walk_at "call ref") => `(tactic| (k_here; (with_reducible show wpAny _ _ (call (Value.ref 22) _) _ _ _); refine' split_call ?k1 ?k2 ?k3 ?k4 ?k5 ?k6 ?k7 ?k8 ?k9 ?_; (case k1 => k_asm); (case k2 => k_asm); (case k3 => k_asm); (case k4 => k_asm); (case k5 => k_asm); (case k6 => first | exact rfl | assumption); (case k7 => omega); (case k8 => ktr_room); (case k9 => ktr_units); intro D' t1' t2' c' h' tk' q1' q2' F' N' l1; dsimp only [tup2] at N'))
section
variable {w : World} {mean : ExcName → Option Value} {mg mb : PySem.Str → Option Value} {news : List (Addr × Obj)}
  {dp un : Nat} {gd : Option (List Code)} {cn : PySem.Str} {cs : Scope} {a : Addr} {ccd : Value} {cl : List (PySem.Str × Addr)} {outer : List Env} {A₀ : Around} {base h₀ : Heap} {L : Addr} {m : PySem.Str → Option Value} {s : Shared} {Q E : Value → Shared → Prop}
set_option maxRecDepth 100000 in
set_option maxHeartbeats 4000000 in
theorem join_abs {here there : PySem.Str} {th tt : Tok}
    (B : Below A₀ base outer h₀) (F : Fr h₀ L s.heap m) (X : (hd.heap_39 w.params).In h₀) (N : News h₀ L s.heap news)
    (T : Top hd.view_39 (looseW hd.view_39 [Str.ofString "splitFragP", Str.ofString "_law_names"]) mean mg mb h₀) (hk : cs.kind = .function)
    (hl1 : here.length ≤ 2000) (hl2 : there.length ≤ 2000) (hna : 0 ≤ Txt.find there (Str.ofString ":"))
    (hor : Txt.find there (Str.ofString "/") < 0 ∨ Txt.find there (Str.ofString ":") < Txt.find there (Str.ofString "/"))
    (hdp : dp + 2 < recursionLimit) (hun : un + 16 < cLine)
    (hret : ∀ (t : Tok) (h' : Heap) (tk' : Nat), Fr h₀ L h' m → News h₀ L h' news → Q (.str there t) { s with heap := h', toks := tk' }) :
    wpAny (model PySem.Challenge.rw_ez0312_01.row.prog w) (ktrTop dp un gd cn cs L a ccd cl outer) (call (.ref 29) [.str here th, .str there tt]) Q E s := by
  revert X; k_fill; intro X
  refine wpAny_call ?_
  k_dflt cell_enter
  k_steps
  all_goals first
    | (exfalso; omega)
    | ((rename Fr _ _ _ _ => kF9); (rename News _ _ _ _ => kN9); (exact cb_retS hret rfl kF9 kN9))
set_option maxRecDepth 100000 in
set_option maxHeartbeats 4000000 in
theorem join_same {here there : PySem.Str} {th tt : Tok}
    (B : Below A₀ base outer h₀) (F : Fr h₀ L s.heap m) (X : (hd.heap_39 w.params).In h₀) (N : News h₀ L s.heap news)
    (T : Top hd.view_39 (looseW hd.view_39 [Str.ofString "splitFragP", Str.ofString "_law_names"]) mean mg mb h₀) (hk : cs.kind = .function)
    (hl1 : here.length ≤ 2000) (hl2 : there.length ≤ 2000) (hna : ¬ 0 ≤ Txt.find there (Str.ofString ":")) (hcol : 0 ≤ Txt.find here (Str.ofString ":"))
    (hp : ((spP there).length : Int) = 0)
    (hdp : dp + 2 < recursionLimit) (hun : un + 16 < cLine)
    (hret : ∀ (t : Tok) (h' : Heap) (tk' : Nat), Fr h₀ L h' m → News h₀ L h' news → Q (.str (here ++ spF there) t) { s with heap := h', toks := tk' }) :
    wpAny (model PySem.Challenge.rw_ez0312_01.row.prog w) (ktrTop dp un gd cn cs L a ccd cl outer) (call (.ref 29) [.str here th, .str there tt]) Q E s := by
  revert X; k_fill; intro X
  refine wpAny_call ?_
  k_dflt cell_enter
  k_steps
  all_goals first
    | (exfalso; omega)
    | ((rename Fr _ _ _ _ => kF9); (rename News _ _ _ _ => kN9); (exact cb_retS hret rfl kF9 (cb_drop kN9 (fun p hp => List.Mem.tail _ hp))))
end
end Mine

/-! part C4 -/
namespace Mine
open PySem PySem.W PyProof.Rows
theorem reset_C4 : True := by
  w_top off
  k_with_none
  trivial
local macro_rules | `(tactic| walk_at "idle0") => `(tactic| fail "idle")
local macro_rules | `(tactic| walk_at "idle1") => `(tactic| fail "idle")
local macro_rules | `(tactic| walk_at "idle2") => `(tactic| fail "idle")
def JoinsTo (here there r : PySem.Str) : Prop := here.length ≤ 2000 ∧ there.length ≤ 2000 ∧ PyData.strOk r = true ∧
  ((¬ 0 ≤ Txt.find there (Str.ofString ":") ∧ 0 ≤ Txt.find here (Str.ofString ":") ∧
    (Txt.slice here (some (Txt.find here (Str.ofString ":") + 1)) (some (Txt.find here (Str.ofString ":") + 2)) != Str.ofString "/") = false ∧
    (Txt.slice here (some (Txt.find here (Str.ofString ":") + 1)) (some (Txt.find here (Str.ofString ":") + 3)) == Str.ofString "//") = true ∧ r = joinF here there) ∨
   (0 ≤ Txt.find there (Str.ofString ":") ∧ (Txt.find there (Str.ofString "/") < 0 ∨ Txt.find there (Str.ofString ":") < Txt.find there (Str.ofString "/")) ∧ r = there) ∨
   (¬ 0 ≤ Txt.find there (Str.ofString ":") ∧ 0 ≤ Txt.find here (Str.ofString ":") ∧ ((spP there).length : Int) = 0 ∧ r = here ++ spF there))
section
variable {w : World} {mean : ExcName → Option Value} {mg mb : PySem.Str → Option Value} {news : List (Addr × Obj)}
  {dp un : Nat} {gd : Option (List Code)} {cn : PySem.Str} {cs : Scope} {a : Addr} {ccd : Value} {cl : List (PySem.Str × Addr)} {outer : List Env} {A₀ : Around} {base h₀ : Heap} {L : Addr} {m : PySem.Str → Option Value} {s : Shared} {Q E : Value → Shared → Prop}
theorem join_ok {here there r : PySem.Str} {th tt : Tok}
    (B : Below A₀ base outer h₀) (F : Fr h₀ L s.heap m) (X : (hd.heap_39 w.params).In h₀) (N : News h₀ L s.heap news)
    (T : Top hd.view_39 (looseW hd.view_39 [Str.ofString "splitFragP", Str.ofString "_law_names"]) mean mg mb h₀) (hk : cs.kind = .function)
    (hj : JoinsTo here there r)
    (hdp : dp + 2 < recursionLimit) (hun : un + 16 < cLine)
    (hret : ∀ (t : Tok) (h' : Heap) (tk' : Nat), Fr h₀ L h' m → News h₀ L h' news → Q (.str r t) { s with heap := h', toks := tk' }) :
    wpAny (model PySem.Challenge.rw_ez0312_01.row.prog w) (ktrTop dp un gd cn cs L a ccd cl outer) (call (.ref 29) [.str here th, .str there tt]) Q E s := by
  obtain ⟨h1, h2, _, hj⟩ := hj
  rcases hj with ⟨a1, a2, a3, a4, rfl⟩ | ⟨a1, a2, rfl⟩ | ⟨a1, a2, a3, rfl⟩
  · exact join_call B F X N T hk h1 h2 a1 a2 a3 a4 hdp hun hret
  · exact join_abs B F X N T hk h1 h2 a1 a2 hdp hun hret
  · exact join_same B F X N T hk h1 h2 a1 a2 a3 hdp hun hret
local macro_rules | `(tactic| walk_at "call ref") => `(tactic| (k_here; (with_reducible show wpAny _ _ (call (Value.ref 29) _) _ _ _); refine' join_ok ?k1 ?k2 ?k3 ?k4 ?k5 ?k6 ?k7 ?k8 ?k9 ?_; (case k1 => k_asm); (case k2 => k_asm); (case k3 => k_asm); (case k4 => k_asm); (case k5 => k_asm); (case k6 => first | exact rfl | assumption); (case k7 => assumption); (case k8 => ktr_room); (case k9 => ktr_units); intro t' h' tk' F' N'))
set_option maxRecDepth 100000 in
set_option maxHeartbeats 4000000 in
theorem told_ok {here there r : PySem.Str} {th tt : Tok}
    (B : Below A₀ base outer h₀) (F : Fr h₀ L s.heap m) (X : (hd.heap_39 w.params).In h₀) (N : News h₀ L s.heap news)
    (T : Top hd.view_39 (looseW hd.view_39 [Str.ofString "splitFragP", Str.ofString "_law_names"]) mean mg mb h₀) (hk : cs.kind = .function)
    (hj : JoinsTo here there r)
    (hdp : dp + 3 < recursionLimit) (hun : un + 24 < cLine)
    (hret : ∀ (D : Addr) (t1 t2 : Tok) (c : Nat) (h' : Heap) (tk' : Nat), PyData.strOk r = true → Fr h₀ L h' m → News h₀ L h' ((D, tup2 (.str (Str.ofString "told") t1) (.str r t2) c) :: news) → (∀ p ∈ news, p.1 < D) → Q (.ref D) { s with heap := h', toks := tk' }) :
    wpAny (model PySem.Challenge.rw_ez0312_01.row.prog w) (ktrTop dp un gd cn cs L a ccd cl outer) (call (.ref 44) [.str here th, .str there tt]) Q E s := by
  replace hret := fun D t1 t2 c h' tk' => hret D t1 t2 c h' tk' hj.2.2.1
  revert X; k_fill; intro X
  refine wpAny_call ?_
  k_dflt cell_enter
  k_steps
  all_goals ((rename Fr _ _ _ _ => kF9); (rename News _ _ _ _ => kN9); exact hret _ _ _ _ _ _ kF9 kN9 (by assumption))
theorem eq_told {prog : Program} {A : Around} {a b : Addr} {x : PySem.Str} {u1 u2 u3 u4 : Tok} {c d : Nat} (N : News h₀ L s.heap news)
    (hm : (a, ({ cls := .type "tuple", data := .seq #[.str (Str.ofString "told") u1, .str x u2] c } : Obj)) ∈ news) (hm' : (b, ({ cls := .type "tuple", data := .seq #[.str (Str.ofString "told") u3, .str x u4] d } : Obj)) ∈ news)
    (hx : PyData.strOk x = true) (hu : A.units + 64 < cLine) (h : Q (.bool true) s) : wpAny (model prog w) A (compareOp .Eq (.ref a) (.ref b)) Q E s := by
  have ht : PyData.strOk (Str.ofString "told") = true := by decide +kernel
  have rd : ∀ {a : Addr} {u1 u2 : Tok} {c : Nat}, (a, ({ cls := .type "tuple", data := .seq #[.str (Str.ofString "told") u1, .str x u2] c } : Obj)) ∈ news → Reads s.heap (.ref a) (.tuple [.str (Str.ofString "told"), .str x]) [] := fun hm =>
    reads_tuple_at (News.get N hm) rfl rfl (ReadsAll.cons (Reads.str _ _) (ReadsAll.cons (Reads.str _ _) ReadsAll.nil))
  have sh : PySem.SeqAt.shaped (.tuple [.str (Str.ofString "told"), .str x]) = true := by
    simp [PySem.SeqAt.shaped, PyData.canLay0, PyData.canLayAll0, PyData.depth, PyData.depthAll, hx, ht]
  refine eq_dataH (rd hm) (rd hm') sh sh hu ?_
  simpa [PyData.eqv, PyData.eqvAll] using h
end
end Mine

/-! part C6 -/
namespace Mine
open PySem PySem.W PyProof.Rows
section
variable {prog : Program} {w : World} {A : Around} {h₀ : Heap} {L : Addr} {m : PySem.Str → Option Value} {env : Env} {elt : PySem.Expr} {x : PySem.Str} {scope : Scope} {cl : List (PySem.Str × Addr)} {s : Shared} {S : List (Addr × Obj) → Prop} {P : Nat → Value → Prop} {Fin : List Value → List (Addr × Obj) → Prop} {news : List (Addr × Obj)}
theorem ct_texts {vs : List Value} {xs : List PySem.Str} (g : PySem.Str → PySem.Str) (hi : StrsAre vs xs)
    (turn : ∀ k t I oI C oC D m₂ ys h tk (E' : Value → Shared → Prop), k ∈ xs → LCg.NsObj oC m₂ → m₂ x = some (.str k t) → Fr h₀ L h m → News h₀ L h ((I, oI) :: (C, oC) :: (D, LCg.lst ys) :: news) → LCg.Off3 I C D news → ((@Ne Nat I C) ∧ (@Ne Nat I D) ∧ (@Ne Nat C D)) →
      wpAny (model prog w) A (eval elt (compEnvC scope cl C env)) (LCg.CompEnd h₀ L m { s with heap := h, toks := tk } I oI C oC D (LCg.lst ys) S (fun y news' => KCtEl news (g k) y news')) E' { s with heap := h, toks := tk })
    (fin : ∀ ys, StrsAre ys (xs.map g) → Fin ys news) : LCg.CompRest prog w A h₀ L m env elt x scope cl s S (fun i v => vs.toArray[i]? = some v) Fin vs.toArray.size 0 [] news := by
  have hlen := hi.length
  have key : ∀ (j i : Nat) (ys : List Value), i + j = xs.length → StrsAre ys ((xs.take i).map g) → LCg.CompRest prog w A h₀ L m env elt x scope cl s S (fun i v => vs.toArray[i]? = some v) Fin j i ys news := by
    intro j
    induction j with
    | zero =>
      intro i ys hi' hy
      have e : i = xs.length := by omega
      subst e
      rw [List.take_length] at hy
      exact LCg.CompRest.zero (fin ys hy)
    | succ j ih =>
      intro i ys hi' hy
      refine LCg.CompRest.succ ?_
      intro v I oI C oC D m₂ h tk E' hv hC hx F N off ne
      obtain ⟨k, t, hv', hk⟩ := StrsAre.item hi i v (by simpa using hv)
      rw [hv'] at hx
      refine wpAny_mono (turn k t I oI C oC D m₂ ys h tk E' (List.mem_of_getElem? hk) hC hx F N off ne) (fun y s₂ hq => ?_) fun _ _ e => e
      obtain ⟨h', tk', nw, e, F', N', off', hS, hn, t', hy'⟩ := hq
      rw [hn] at N' off' hS
      refine ⟨h', tk', news, e, F', N', off', hS, ?_⟩
      rw [hy']
      refine ih (i + 1) _ (by omega) ?_
      rw [List.take_add_one, hk]
      simpa using kct_snoc hy
  have hsz : vs.toArray.size = xs.length := by rw [List.size_toArray, hlen]
  rw [hsz]
  exact key xs.length 0 [] (by omega) (by simp only [List.take_zero, List.map_nil]; exact .nil)
theorem ct_range {n : Nat} {a : Int} (g : Int → PySem.Str)
    (turn : ∀ k t I oI C oC D m₂ ys h tk (E' : Value → Shared → Prop), a ≤ k → k < a + (n : Int) → LCg.NsObj oC m₂ → m₂ x = some (.int k t) → Fr h₀ L h m → News h₀ L h ((I, oI) :: (C, oC) :: (D, LCg.lst ys) :: news) → LCg.Off3 I C D news → ((@Ne Nat I C) ∧ (@Ne Nat I D) ∧ (@Ne Nat C D)) →
      wpAny (model prog w) A (eval elt (compEnvC scope cl C env)) (LCg.CompEnd h₀ L m { s with heap := h, toks := tk } I oI C oC D (LCg.lst ys) S (fun y news' => KCtEl news (g k) y news')) E' { s with heap := h, toks := tk })
    (fin : ∀ ys, StrsAre ys ((rangeKs a n).map g) → Fin ys news) : LCg.CompRest prog w A h₀ L m env elt x scope cl s S (fun i v => ∃ t, v = .int (a + (i : Int)) t) Fin n 0 [] news :=
  kct_range g (fun k t I oI C oC D m₂ ys h tk E' h1 h2 hC hx F N off ne _ => turn k t I oI C oC D m₂ ys h tk E' h1 h2 hC hx F N off ne)
    (fun ys hy _ => fin ys (StrsAre.ofCarried (by rw [List.map_map]; exact hy)))
end
def LenLe (B : Nat) (l : List PySem.Str) : Prop := ∀ x ∈ l, x.length ≤ B
theorem LenLe.sum {B : Nat} : ∀ {l : List PySem.Str}, LenLe B l → (l.map (·.length)).sum ≤ l.length * B
  | [], _ => by simp
  | x :: r, h => by
    have h1 := h x (.head _)
    have h2 := LenLe.sum (l := r) fun y hy => h y (.tail _ hy)
    simp only [List.map_cons, List.sum_cons, List.length_cons]
    rw [Nat.add_mul, Nat.one_mul]; omega
theorem join_len {x : PySem.Str} {B : Nat} : ∀ {l : List PySem.Str}, LenLe B l → (PySem.Str.join x l).length ≤ l.length * (B + x.length)
  | [], _ => Nat.zero_le _
  | [y], h => by
    have := h y (.head _)
    show y.length ≤ _
    simp only [List.length_cons, List.length_nil]; omega
  | y :: z :: r, h => by
    have h1 := h y (.head _)
    have h2 := join_len (x := x) (l := z :: r) fun y hy => h y (.tail _ hy)
    show (y ++ x ++ PySem.Str.join x (z :: r)).length ≤ (z :: r).length.succ * (B + x.length)
    rw [Str.length_append, Str.length_append, Nat.succ_mul]; omega
theorem join_small {prog : Program} {w : World} {A : Around} {E : Value → Shared → Prop} {s : Shared} {x : PySem.Str} {t : Tok} {Q : Value → Shared → Prop} {D : Addr} {vs : List Value} {ys : List PySem.Str} {c : Nat}
    {h₀ : Heap} {L : Addr} {news : List (Addr × Obj)} (N : News h₀ L s.heap news) (hm : (D, ({ cls := .type "list", data := .seq vs.toArray c } : Obj)) ∈ news) (hi : StrsAre vs ys) (hsep : x.length ≤ 1) (hB : LenLe 8 ys) (hn : ys.length ≤ 5)
    (h : ∀ t' k, (PySem.Str.join x ys).length ≤ 45 → Q (.str (PySem.Str.join x ys) t') { s with toks := k }) : wpAny (model prog w) A (call (.builtin "str.join") [.str x t, .ref D]) Q E s := by
  refine join_listW (ys := ys) (items := vs.toArray) ⟨_, (N _ hm).1, rfl, _, rfl⟩ (by simpa using hi) (by omega) ?_ ?_
  · have := hB.sum; omega
  · intro t' k
    rw [show Txt.join x ys = PySem.Str.join x ys from StrLaws.glued_eq_join x ys]
    refine h t' k ?_
    have h1 := join_len (x := x) hB
    have h2 : ys.length * (8 + x.length) ≤ 5 * 9 := Nat.mul_le_mul hn (by omega)
    omega
abbrev gPre (x : PySem.Str) : PySem.Str := Str.ofString "/" ++ x
abbrev gSuf (x : PySem.Str) : PySem.Str := x ++ Str.ofString "/"
theorem name_len {x : PySem.Str} (h : x ∈ lawNames) : x.length ≤ 4 := by
  have : ∀ y ∈ lawNames, y.length ≤ 4 := by decide +kernel
  exact this x h
theorem AllN.len {l : List PySem.Str} (h : AllN l) {x : PySem.Str} (hx : x ∈ l) : x.length ≤ 4 := name_len (h x hx)
theorem AllN_dl {l : List PySem.Str} (h : AllN l) : AllN l.dropLast := fun x hx => h x (List.dropLast_subset _ hx)
theorem first_len {l : List PySem.Str} (h : AllN l) {x : PySem.Str} (hx : x ∈ l) : x.length ≤ 4 := h.len hx
theorem AllN.pre {l : List PySem.Str} (h : AllN l) : LenLe 8 (l.map gPre) := fun y hy => by
  obtain ⟨x, hx, rfl⟩ := List.mem_map.mp hy
  have := h.len hx
  rw [Str.length_append, ofStr_sl_len]; omega
theorem AllN.suf {l : List PySem.Str} (h : AllN l) : LenLe 8 (l.map gSuf) := fun y hy => by
  obtain ⟨x, hx, rfl⟩ := List.mem_map.mp hy
  have := h.len hx
  rw [Str.length_append, ofStr_sl_len]; omega
theorem AllN.le {l : List PySem.Str} (h : AllN l) : LenLe 8 l := fun y hy => by have := h.len hy; omega
theorem AllN_range {n : Nat} {a : Int} {f : Int → Nat} (h : ∀ k, a ≤ k → k < a + (n : Int) → f k < 8) : AllN ((rangeKs a n).map fun k => lawNames.getD (f k) PySem.Str.empty) := fun y hy => by
  obtain ⟨k, hk, rfl⟩ := List.mem_map.mp hy
  obtain ⟨h1, h2⟩ := mem_rangeKs hk
  exact names_mem (h k h1 h2)
theorem reads_of_strs {h : Heap} {a : Addr} {vs : List Value} {xs : List PySem.Str} (hl : h.IsList a vs.toArray) (hi : StrsAre vs xs) : Reads h (.ref a) (.list (xs.map PyData.str)) [a] := by
  obtain ⟨o, ho, hc, n, hd⟩ := hl
  exact Reads.list ho hc hd (by simpa using hi.reads h)
theorem canLayAll0_strs : ∀ xs : List PySem.Str, (∀ x ∈ xs, PyData.strOk x = true) → PyData.canLayAll0 (xs.map PyData.str) = true
  | [], _ => by simp [PyData.canLayAll0]
  | n :: r, h => by simp [PyData.canLayAll0, PyData.canLay0, canLayAll0_strs r (fun x hx => h x (.tail _ hx)), h n (.head _)]
theorem depthAll_strs : ∀ xs : List PySem.Str, PyData.depthAll (xs.map PyData.str) ≤ 1
  | [] => by simp [PyData.depthAll]
  | n :: r => by
    have := depthAll_strs r
    simp only [List.map_cons, PyData.depthAll, PyData.depth]
    omega
theorem shaped_strs (xs : List PySem.Str) (hx : ∀ x ∈ xs, PyData.strOk x = true) : PySem.SeqAt.shaped (.list (xs.map PyData.str)) = true := by
  have h1 := depthAll_strs xs
  have h2 : PyData.depth (.list (xs.map PyData.str)) ≤ 64 := by simp only [PyData.depth]; omega
  show (PyData.canLay0 (.list (xs.map PyData.str)) && decide (PyData.depth (.list (xs.map PyData.str)) ≤ 64)) = true
  rw [Bool.and_eq_true]
  exact ⟨by simp only [PyData.canLay0]; exact canLayAll0_strs xs hx, decide_eq_true h2⟩
theorem AllN.ok {l : List PySem.Str} (h : AllN l) : ∀ x ∈ l, PyData.strOk x = true := fun x hx => by
  have : ∀ y ∈ lawNames, PyData.strOk y = true := by decide +kernel
  exact this x (h x hx)
section
variable {prog : Program} {w : World} {A : Around} {E : Value → Shared → Prop} {s : Shared}
theorem eq_textsNil {a b : Addr} {vs : List Value} {xs : List PySem.Str} {Q : Value → Shared → Prop} {h₀ : Heap} {L : Addr} {news : List (Addr × Obj)} {c d : Nat} (N : News h₀ L s.heap news)
    (hm : (a, ({ cls := .type "list", data := .seq vs.toArray c } : Obj)) ∈ news) (hi : StrsAre vs xs) (hm' : (b, ({ cls := .type "list", data := .seq #[] d } : Obj)) ∈ news) (hN : AllN xs) (hu : A.units + 64 < cLine)
    (h : Q (.bool (decide (xs = []))) s) : wpAny (model prog w) A (compareOp .Eq (.ref a) (.ref b)) Q E s := by
  have hl : s.heap.IsList a vs.toArray := ⟨_, (N _ hm).1, rfl, _, rfl⟩
  have hl' : s.heap.IsList b ([] : List Value).toArray := ⟨_, (N _ hm').1, rfl, _, rfl⟩
  refine eq_dataH_same (reads_of_strs hl hi) (reads_of_strs (xs := []) hl' .nil) (shaped_strs xs hN.ok) (shaped_strs [] (fun _ h => nomatch h)) hu ?_ ?_
  · cases xs <;> simp [PySem.SeqAt.noMix, PySem.SeqAt.noMixAll]
  · cases xs with
    | nil => simpa [PySem.Spec.same, PySem.Spec.sameAll] using h
    | cons x r => simpa [PySem.Spec.same, PySem.Spec.sameAll] using h
end
end Mine

/-! part C7 -/
namespace Mine
open PySem PySem.W PyProof.Rows PySem.Calls
section
variable {prog : Program} {w : World} {A₀ A : Around} {s : Shared} {base h₀ : Heap} {env : Env} {L : Addr} {m : PySem.Str → Option Value} {news : List (Addr × Obj)} {K : Frag} {p : Program} {loose : List PySem.Str} {mean : ExcName → Option Value} {mg mb : PySem.Str → Option Value}
    {R : Result → Shared → Prop} {name qual : PySem.Str} {params : Arguments} {body : List PySem.Stmt} {scope : Scope} {dV kV doc pm cdv ct oc : Value} {an od : Option Addr} {osl : Array (Option Value)} {f : Addr} {args : Args} {binds : List (PySem.Str × Value)}
/-- a def that catches, called from a frame of any make (with cells, too) -/
theorem enterX (B : Below A₀ base [] h₀) (F : Fr h₀ L s.heap m) (X₀ : K.In h₀) (N : News h₀ L s.heap news) (T : Top p loose mean mg mb h₀) (hA : A.frames = some [env]) (hf : env.frame = some L) (hke : env.scope.kind = .function)
    (ho : K.lookup f = some ⟨oc, od, .func (fnOf name qual params body scope dV kV doc pm an cdv ct), osl⟩) (hcd : codeIn K cdv qual = true) (hroom : A.depth < recursionLimit)
    (hbind : BindsTo s (fnOf name qual params body scope dV kV doc pm an cdv ct) args binds) (hloc : ∀ y ∈ binds, scope.names.lookup y.1 = some .local)
    (h : ∀ g L' h₁, Fr h₀ L g m → Fr g L' h₁ (fun y => binds.reverse.lookup y) → News g L' h₁ news → Below A base [env] g → K.In g → Top p loose mean mg mb g → KtsDicts ([env].filterMap (·.frame)) g →
      wpAny (model prog w) (A.deeper (envOf qual scope L' f cdv)) (execs body (envOf qual scope L' f cdv))
        (fun fl s' => LeaveS0 ([env].filterMap (·.frame)) h₀ L m g R (match fl with | .ret v => v | _ => .none) s')
        (fun e s' => wpAny (model prog w) (A.deeper (envOf qual scope L' f cdv)) (leaving (envOf qual scope L' f cdv) e) (fun _ s'' => R (.error e) s'') (fun e' s'' => R (.error e') s'') s')
        { s with heap := h₁, toks := s.toks + binds.length })
    (hco : scope.isCoroutine = false) (hgen : scope.isGenerator = false) (hk : scope.kind = .function)
    (hcell : ∀ x ∈ scope.names, x.2 ≠ .cell) : codeAny (model prog w) A (.call (.ref f) args) R s := by
  have one : ∀ b, b ∈ [env].filterMap (·.frame) → b = L := fun b hb => by simpa [hf] using hb
  have inL : L ∈ [env].filterMap (·.frame) := by simp [hf]
  have away : ∀ b o, h₀.get? b = some o → b ∉ [env].filterMap (·.frame) := fun b o e hb => by
    rw [one b hb] at e
    exact absurd (Nat.lt_of_lt_of_le (Heap.lt_size e) F.above) (Nat.lt_irrefl _)
  obtain ⟨FG, BG, st, _⟩ := groundX (R := R) B F N hA hf hke
  obtain ⟨oL, es, ep, atL, isD, keys, finds⟩ := FG.ns
  have X := X₀.keeps F.keep
  refine codeAny_call_def (fd := fnOf name qual params body scope dV kV doc pm an cdv ct) (body := body) (binds := binds) hroom (X _ _ ho) rfl (T.nolimit.keeps F.keep) (codeRec_of X hcd) rfl hbind hcell hloc (fun h₁ hns hk₁ => ?_) hco hgen hk
  have D : KtsDicts ([env].filterMap (·.frame)) (hideAll s.heap (news.map (·.1))) := fun b hb => by
    rw [one b hb]; exact ⟨oL, es, ep, atL, isD⟩
  have start := h _ s.heap.objs.size h₁ FG ⟨hns, fun b o e => hk₁ b o (of_hideAll _ e), Nat.le_of_eq (hideAll_size _ _)⟩
    (fun q hq => ⟨hk₁ _ _ (N q hq).1, Nat.ne_of_lt (Heap.lt_size (N q hq).1), hideAll_none _ (List.mem_map_of_mem hq)⟩) BG (X₀.keeps st) (T.keeps st) D
  refine wpAny_mono start (fun fl s' back => ?_) fun _ _ y => y
  obtain ⟨g', L', m', news', turn, F', N', k⟩ := back
  obtain ⟨sl, hs⟩ := turn.frame L oL atL inL
  have keep' : ∀ b o, h₀.get? b = some o → s'.heap.get? b = some o := fun b o e => F'.keep b o (turn.other b o (st b o e) (away b o e))
  have F'' : Fr h₀ L s'.heap m := ⟨⟨_, es, ep, F'.keep _ _ hs, isD, keys, finds⟩, keep', F.above⟩
  refine k F'' fun q hq => ⟨(N' q hq).1, fun e => ?_, ?_⟩
  · have z := (N' q hq).2.2
    rw [e, hs] at z
    cases z
  · cases e : h₀.get? q.1 with
    | none => rfl
    | some o =>
      have z := (N' q hq).2.2
      rw [turn.other _ o (st _ _ e) (away _ _ e)] at z
      cases z
end
abbrev objT1 (x : PySem.Str) (u : Tok) (c : Nat) : Obj := { cls := .type "tuple", data := .seq #[.str x u] c }
abbrev objT2 (x y : PySem.Str) (u v : Tok) (c : Nat) : Obj := { cls := .type "tuple", data := .seq #[.str x u, .str y v] c }
abbrev objL3 (x y z : Addr) (c : Nat) : Obj := { cls := .type "list", data := .seq #[.ref x, .ref y, .ref z] c }
theorem eq_due {prog : Program} {w : World} {A : Around} {E : Value → Shared → Prop} {s : Shared} {Q : Value → Shared → Prop} {h₀ : Heap} {L : Addr} {news : List (Addr × Obj)} {a b d1 d2 d3 e1 e2 e3 : Addr} {x : PySem.Str} {u1 u2 u3 u4 v1 v2 v3 v4 : Tok} {c c1 c2 c3 c' c1' c2' c3' : Nat}
    (N : News h₀ L s.heap news)
    (hd1 : (d1, objT1 (Str.ofString "value") u1 c1) ∈ news) (hd2 : (d2, objT1 (Str.ofString "assert") u2 c2) ∈ news) (hd3 : (d3, objT2 (Str.ofString "told") x u3 u4 c3) ∈ news) (hl : (a, objL3 d1 d2 d3 c) ∈ news)
    (he1 : (e1, objT1 (Str.ofString "value") v1 c1') ∈ news) (he2 : (e2, objT1 (Str.ofString "assert") v2 c2') ∈ news) (he3 : (e3, objT2 (Str.ofString "told") x v3 v4 c3') ∈ news) (hl' : (b, objL3 e1 e2 e3 c') ∈ news)
    (hx : PyData.strOk x = true) (hu : A.units + 64 < cLine) (h : Q (.bool true) s) : wpAny (model prog w) A (compareOp .Eq (.ref a) (.ref b)) Q E s := by
  have t1 : PyData.strOk (Str.ofString "told") = true := by decide +kernel
  have t2 : PyData.strOk (Str.ofString "value") = true := by decide +kernel
  have t3 : PyData.strOk (Str.ofString "assert") = true := by decide +kernel
  have r1 : ∀ {a : Addr} {y : PySem.Str} {u : Tok} {c : Nat}, (a, objT1 y u c) ∈ news → Reads s.heap (.ref a) (.tuple [.str y]) [] := fun hm =>
    reads_tuple_at (News.get N hm) rfl rfl (ReadsAll.cons (Reads.str _ _) ReadsAll.nil)
  have r2 : ∀ {a : Addr} {y z : PySem.Str} {u v : Tok} {c : Nat}, (a, objT2 y z u v c) ∈ news → Reads s.heap (.ref a) (.tuple [.str y, .str z]) [] := fun hm =>
    reads_tuple_at (News.get N hm) rfl rfl (ReadsAll.cons (Reads.str _ _) (ReadsAll.cons (Reads.str _ _) ReadsAll.nil))
  have rl : ∀ {a d1 d2 d3 : Addr} {c c1 c2 c3 : Nat} {u1 u2 u3 u4 : Tok}, (d1, objT1 (Str.ofString "value") u1 c1) ∈ news → (d2, objT1 (Str.ofString "assert") u2 c2) ∈ news → (d3, objT2 (Str.ofString "told") x u3 u4 c3) ∈ news → (a, objL3 d1 d2 d3 c) ∈ news →
      Reads s.heap (.ref a) (.list [.tuple [.str (Str.ofString "value")], .tuple [.str (Str.ofString "assert")], .tuple [.str (Str.ofString "told"), .str x]]) [a] := fun h1 h2 h3 h4 =>
    reads_list_at (News.get N h4) rfl rfl (ReadsAll.cons (r1 h1) (ReadsAll.cons (r1 h2) (ReadsAll.cons (r2 h3) ReadsAll.nil)))
  have sh : PySem.SeqAt.shaped (.list [.tuple [.str (Str.ofString "value")], .tuple [.str (Str.ofString "assert")], .tuple [.str (Str.ofString "told"), .str x]]) = true := by
    simp [PySem.SeqAt.shaped, PyData.canLay0, PyData.canLayAll0, PyData.depth, PyData.depthAll, hx, t1, t2, t3]
  refine eq_dataH (rl hd1 hd2 hd3 hl) (rl he1 he2 he3 hl') sh sh hu ?_
  simpa [PyData.eqv, PyData.eqvAll] using h
end Mine

/-! part C8 -/
namespace Mine
open PySem PySem.W PyProof.Rows PySem.Calls PySem.Spec
/-- a turn's end, where the turn may put new objects into the state's place -/
def EndJ (h₀ : Heap) (L : Addr) (J : (PySem.Str → Option Value) → List (Addr × Obj) → Prop) (own : List (Addr × Obj)) (s₁ s₂ : Shared) : Prop :=
  ∃ h' tk m' news' nx, s₂ = { s₁ with heap := h', toks := tk } ∧ Fr h₀ L h' m' ∧ News h₀ L h' news' ∧ (∀ p ∈ nx, p ∈ news') ∧ (∀ p ∈ own, p ∈ news') ∧ OwnOff own (nx.map (·.1)) ∧ J m' nx
def PostJ (h₀ : Heap) (L : Addr) (J : (PySem.Str → Option Value) → List (Addr × Obj) → Prop) (own : List (Addr × Obj)) (s₁ : Shared) (Q : Flow → Shared → Prop) (f : Flow) (s₂ : Shared) : Prop :=
  match f with
  | .ret v => Q (.ret v) s₂
  | .brk => Q .next s₂
  | _ => EndJ h₀ L J own s₁ s₂
section
variable {prog : Program} {w : World} {A : Around} {E : Value → Shared → Prop} {s : Shared} {env : Env} {h₀ : Heap} {x : PySem.Str} {body : List PySem.Stmt} {Q : Flow → Shared → Prop} {news : List (Addr × Obj)}
theorem loop_rangeJ {r : Addr} {a₀ b₀ : Int} {t₀ u₀ v₀ : Tok} {n : Nat} {m₀ : PySem.Str → Option Value} (J : Nat → (PySem.Str → Option Value) → List (Addr × Obj) → Prop)
    (hh : A.handled = none) (hr : IsRange s.heap r a₀ b₀ 1 t₀ u₀ v₀) (hsmall : Builtin.Range.small a₀ b₀ 1 = true) (hn : Builtin.Range.rangeSize a₀ b₀ 1 = (n : Int))
    (F : Fr h₀ env.locals s.heap m₀) (N : News h₀ env.locals s.heap news) (hj : J 0 m₀ news)
    (turn : ∀ (i : Nat) (k : Int) (t : Tok) (m₁ : PySem.Str → Option Value) nx h tk own, k = a₀ + (i : Int) → i < n → OwnOff own (nx.map (·.1)) → J i m₁ nx →
      Fr h₀ env.locals h (fun y => if y = x then some (.int k t) else m₁ y) → News h₀ env.locals h (nx ++ own) →
      wpAny (model prog w) A (execs body env) (PostJ h₀ env.locals (J (i + 1)) own { s with heap := h, toks := tk } Q) E { s with heap := h, toks := tk })
    (done : ∀ m₁ nx h tk, J n m₁ nx → Fr h₀ env.locals h m₁ → News h₀ env.locals h nx → Q .next { s with heap := h, toks := tk }) :
    wpAny (model prog w) A (pyIter (.ref r)) (fun it s₂ => LoopAtV prog w A h₀ env x body Q E it s₂) E s := by
  refine wpAny_pyIter_range hr hsmall ?_
  have fresh₀ : h₀.get? s.heap.objs.size = none := next_is_new F
  have W : Walks prog w A s.heap.objs.size [s.heap.objs.size] [s.heap.objs.size] n (fun i v => i < n ∧ ∃ t, v = .int (a₀ + i * 1) t)
      (fun i h => IsRangeIter h s.heap.objs.size (a₀ + (i : Nat) * 1) ((n : Int) - (i : Nat)) 1) := (Walks.range hh _ a₀ 1 n).bound
  refine ⟨_, _, _, n, _, _, m₀, news, J, rfl, W, ?_, ?_, ?_, (by show IsRangeIter _ _ _ _ _; rw [hn]; simpa using Heap.get?_push_size _ rfl), F.push _, (fun p hp => ⟨Heap.get?_push_of_some _ (N p hp).1, (N p hp).2⟩), hj, ?_, ?_⟩
  · intro hm
    exact absurd F.ns.lt ((List.mem_singleton.mp hm) ▸ Nat.lt_irrefl _)
  · intro b hb
    rw [List.mem_singleton.mp hb]; exact fresh₀
  · intro p hp hI
    exact absurd (Heap.lt_size (N p hp).1) ((List.mem_singleton.mp hI) ▸ Nat.lt_irrefl _)
  · rintro i v m₁ nx s₁ own ⟨h, tk, rfl⟩ hin ⟨_, t, rfl⟩ hJ hoff hown _ hall hst F₁ N₁
    have e1 : a₀ + (i : Int) * 1 = a₀ + (i : Int) := by omega
    rw [e1] at F₁
    have sep : OwnOff own (nx.map (·.1)) := by
      intro p hp b hb e
      obtain ⟨q, hq, rfl⟩ := List.mem_map.mp hb
      exact hoff q hq (e ▸ hown p hp)
    obtain ⟨oI, hoI⟩ : ∃ o, h.get? s.heap.objs.size = some o := ⟨_, hst⟩
    have mine : (s.heap.objs.size, oI) ∈ own := hall _ (List.mem_singleton.mpr rfl) fresh₀ _ hoI
    have N₂ : News h₀ env.locals h (nx ++ own) := fun p hp => N₁ p ((List.mem_append.mp hp).elim (fun z => List.mem_append.mpr (.inr z)) fun z => List.mem_append.mpr (.inl z))
    refine wpAny_mono (turn i _ t m₁ nx h tk own rfl hin sep hJ F₁ N₂) (fun f s₂ p => ?_) fun _ _ e => e
    have fin : EndJ h₀ env.locals (J (i + 1)) own { s with heap := h, toks := tk } s₂ → LoopStepU h₀ env.locals [s.heap.objs.size] own (J (i + 1)) { s with heap := h, toks := tk } .next s₂ := by
      rintro ⟨h', tk', m', news', nx', e, F', N', hn', ho, off', hm⟩
      refine ⟨rfl, h', tk', m', nx', e, F', fun p hp => N' p ((List.mem_append.mp hp).elim (ho p) (hn' p)), fun p hp hq => ?_, hm⟩
      exact off' _ mine p.1 (List.mem_map.mpr ⟨p, hp, rfl⟩) (List.mem_singleton.mp hq).symm
    cases f with
    | ret v => exact .ret p
    | brk => exact .brk p
    | next => exact .next (fin p)
    | cont => exact .cont (fin p)
  · rintro h' tk m' news' F' N' _ hJ
    exact done m' news' h' tk hJ F' N'
end
section
variable {h₀ : Heap} {L : Addr}
theorem endJ_intro {J : (PySem.Str → Option Value) → List (Addr × Obj) → Prop} {own news' nx : List (Addr × Obj)} {s₁ : Shared} {h' : Heap} {tk : Nat} {m' : PySem.Str → Option Value} (F : Fr h₀ L h' m') (N : News h₀ L h' news')
    (hn : ∀ p ∈ nx, p ∈ news') (ho : ∀ p ∈ own, p ∈ news') (off : OwnOff own (nx.map (·.1))) (hJ : J m' nx) : EndJ h₀ L J own s₁ { s₁ with heap := h', toks := tk } := ⟨h', tk, m', news', nx, rfl, F, N, hn, ho, off, hJ⟩
theorem off_tail {own : List (Addr × Obj)} {a : Addr} {adr : List Addr} (h : OwnOff own (a :: adr)) : OwnOff own adr := fun p hp b hb => h p hp b (.tail _ hb)
theorem off_new {own l : List (Addr × Obj)} {D : Addr} {adr : List Addr} (h : OwnOff own adr) (l1 : ∀ p ∈ l, p.1 < D) (hs : ∀ p ∈ own, p ∈ l) : OwnOff own (D :: adr) := fun p hp b hb => by
  rcases List.mem_cons.mp hb with rfl | hb
  · exact Nat.ne_of_lt (l1 p (hs p hp))
  · exact h p hp b hb
theorem pick_m1 (vs : List Value) : slicePick vs.toArray none (some (-1)) none = vs.dropLast.toArray := by
  have e : sliceBounds none (some (-1)) none vs.toArray.size = (((0 : Nat) : Int), ((vs.length - 1 : Nat) : Int), 1) := by
    simp only [sliceBounds, Option.getD_none, show (1 : Int) > 0 by decide, if_true, show (-1 : Int) < 0 by decide, List.size_toArray]
    congr 1
    congr 1
    omega
  rw [kmk_pick_nat _ e]
  simp [List.dropLast_eq_take]
theorem left_slice {prog : Program} {w : World} {A : Around} {E : Value → Shared → Prop} {s : Shared} {m : PySem.Str → Option Value} {news : List (Addr × Obj)} {value slice : PySem.Expr} {l : Addr} {c : Nat} {vs : List Value} {xs : List PySem.Str} {u : Tok} {Q : Value → Shared → Prop}
    (F : Fr h₀ L s.heap m) (N : News h₀ L s.heap news) (hm : (l, ({ cls := .type "list", data := .seq vs.toArray c } : Obj)) ∈ news) (hi : StrsAre vs xs) (hx : xs.length ≤ 1000)
    (h : ∀ D ws h', Fr h₀ L h' m → News h₀ L h' ((D, listOf (List.toArray ws) 0) :: news) → (∀ p ∈ news, p.1 < D) → StrsAre ws xs.dropLast → Q (.ref D) { s with heap := h' })
    (hs : subscripted slice false (.ref l) (.ref s.heap.objs.size) = operate [.ref s.heap.objs.size, .ref l] (getItem (.ref l) (.ref s.heap.objs.size))) (ht : ∀ r, letTemporaryGo value (.ref l) r = pure ()) :
    wpAny (model prog w) A (subscriptTail value slice (.ref l) (.ref s.heap.objs.size)) Q E { s with heap := s.heap.push { cls := .type "slice", data := .fields #[.none, .int (-1) u, .none] } } := by
  refine kmk_slice F N ⟨_, (N _ hm).1, rfl, _, rfl⟩ IsPart.none (IsPart.int (-1) u) (fun D h' F' N' l1 => ?_) hs ht ?_
  · rw [pick_m1] at N'
    refine h D _ h' F' N' l1 ?_
    have := hi.take' (vs.length - 1)
    rw [List.dropLast_eq_take, List.dropLast_eq_take, ← hi.length]
    exact this
  · rw [List.size_toArray, hi.length, PySem.sizeLine_eq]; omega
end
end Mine

/-! part S2 -/
namespace Mine
open PySem PySem.W PyProof.Rows
/-- the steps of a reference: true is a step up -/
def stepTxt : Bool → PySem.Str
  | true => Str.ofString "../"
  | false => Str.ofString "./"
def stepsTxt : List Bool → PySem.Str
  | [] => Str.ofString ""
  | b :: r => stepTxt b ++ stepsTxt r
def ups : List Bool → List PySem.Str → List PySem.Str
  | [], fs => fs
  | true :: r, fs => ups r fs.dropLast
  | false :: r, fs => ups r fs
def NoTwo : List Bool → Prop
  | [] => True
  | true :: r => NoTwo r
  | false :: r => r.head? ≠ some false ∧ NoTwo r
theorem e_append (x : PySem.Str) : Str.ofString "" ++ x = x := by
  have : Str.ofString "" = PySem.Str.empty := by decide +kernel
  rw [this, Str.empty_append]
theorem append_e (x : PySem.Str) : x ++ Str.ofString "" = x := by
  have : Str.ofString "" = PySem.Str.empty := by decide +kernel
  rw [this, Str.append_empty]
theorem stepsTxt_snoc (b : Bool) : ∀ l, stepsTxt (l ++ [b]) = stepsTxt l ++ stepTxt b
  | [] => by show stepTxt b ++ Str.ofString "" = Str.ofString "" ++ stepTxt b; rw [e_append, append_e]
  | a :: r => by show stepTxt a ++ stepsTxt (r ++ [b]) = stepTxt a ++ stepsTxt r ++ stepTxt b; rw [stepsTxt_snoc b r, Str.append_assoc]
theorem ups_snoc (b : Bool) : ∀ (l : List Bool) (fs : List PySem.Str), ups (l ++ [b]) fs = if b then (ups l fs).dropLast else ups l fs
  | [], fs => by cases b <;> rfl
  | true :: r, fs => by show ups (r ++ [b]) fs.dropLast = _; rw [ups_snoc b r]; rfl
  | false :: r, fs => by show ups (r ++ [b]) fs = _; rw [ups_snoc b r]; rfl
theorem NoTwo_snoc {b : Bool} : ∀ {l : List Bool}, NoTwo l → (b = true ∨ l.getLast? ≠ some false) → NoTwo (l ++ [b])
  | [], _, _ => by cases b <;> simp [NoTwo]
  | true :: r, h, hb => by
    refine NoTwo_snoc (l := r) h (hb.imp id fun h1 h2 => h1 ?_)
    cases r with
    | nil => simp at h2
    | cons c t => simpa using h2
  | [false], _, hb => by
    rcases hb with rfl | hb
    · simp [NoTwo]
    · simp at hb
  | false :: c :: t, h, hb => ⟨by simpa using h.1, NoTwo_snoc (l := c :: t) h.2 (hb.imp id fun h1 => by simpa using h1)⟩
def StepsOk (folders : List PySem.Str) (i : Nat) (there : PySem.Str) (left : List PySem.Str) (still : Bool) : Prop :=
  ∃ l : List Bool, l.length = i ∧ NoTwo l ∧ there = stepsTxt l ∧ left = ups l folders ∧ (still = true ↔ l.getLast? = some false)
theorem StepsOk_nil (folders : List PySem.Str) : StepsOk folders 0 (Str.ofString "") folders false := ⟨[], rfl, trivial, rfl, rfl, by simp⟩
theorem StepsOk_here {folders left : List PySem.Str} {i : Nat} {there : PySem.Str} (h : StepsOk folders i there left false) : StepsOk folders (i + 1) (there ++ Str.ofString "./") left true := by
  obtain ⟨l, h1, h2, rfl, rfl, h5⟩ := h
  refine ⟨l ++ [false], by simp [h1], NoTwo_snoc h2 (.inr fun e => by simpa using h5.mpr e), (stepsTxt_snoc false l).symm, by rw [ups_snoc]; rfl, by simp⟩
theorem StepsOk_up {folders left : List PySem.Str} {i : Nat} {there : PySem.Str} {still : Bool} (h : StepsOk folders i there left still) : StepsOk folders (i + 1) (there ++ Str.ofString "../") left.dropLast false := by
  obtain ⟨l, h1, h2, rfl, rfl, h5⟩ := h
  refine ⟨l ++ [true], by simp [h1], NoTwo_snoc h2 (.inl rfl), (stepsTxt_snoc true l).symm, by rw [ups_snoc]; rfl, by simp⟩
theorem stepsTxt_len : ∀ l, (stepsTxt l).length ≤ 3 * l.length
  | [] => by show (Str.ofString "").length ≤ _; rw [ofStr_e_len]; omega
  | b :: r => by
    have h1 := stepsTxt_len r
    have h2 : (stepTxt b).length ≤ 3 := by cases b <;> decide +kernel
    show (stepTxt b ++ stepsTxt r).length ≤ _
    rw [Str.length_append, List.length_cons]; omega
theorem StepsOk.len {folders left : List PySem.Str} {i : Nat} {there : PySem.Str} {still : Bool} (h : StepsOk folders i there left still) : there.length ≤ 3 * i := by
  obtain ⟨l, rfl, _, rfl, _⟩ := h
  exact stepsTxt_len l
theorem ups_sub : ∀ (l : List Bool) (fs : List PySem.Str), (∀ x ∈ ups l fs, x ∈ fs) ∧ (ups l fs).length ≤ fs.length
  | [], fs => ⟨fun x h => h, Nat.le_refl _⟩
  | true :: r, fs => by
    obtain ⟨h1, h2⟩ := ups_sub r fs.dropLast
    refine ⟨fun x h => List.dropLast_subset _ (h1 x h), Nat.le_trans h2 ?_⟩
    rw [List.length_dropLast]; omega
  | false :: r, fs => ups_sub r fs
theorem StepsOk.left {folders left : List PySem.Str} {i : Nat} {there : PySem.Str} {still : Bool} (h : StepsOk folders i there left still) (hN : AllN folders) : AllN left ∧ left.length ≤ folders.length := by
  obtain ⟨l, rfl, _, _, rfl, _⟩ := h
  exact ⟨fun x hx => hN x ((ups_sub l folders).1 x hx), (ups_sub l folders).2⟩
theorem n_tl : ¬ Str.ofString "there" = Str.ofString "left" := by decide +kernel
theorem n_lt : ¬ Str.ofString "left" = Str.ofString "there" := by decide +kernel
theorem n_ts : ¬ Str.ofString "there" = Str.ofString "still" := by decide +kernel
theorem n_sl : ¬ Str.ofString "still" = Str.ofString "left" := by decide +kernel
theorem n_st : ¬ Str.ofString "still" = Str.ofString "there" := by decide +kernel
theorem n_ls : ¬ Str.ofString "left" = Str.ofString "still" := by decide +kernel
theorem n_lk : ¬ Str.ofString "left" = Str.ofString "k" := by decide +kernel
/-- what the law keeps between two turns -/
def JL (m₀ : PySem.Str → Option Value) (nx0 : List (Addr × Obj)) (folders : List PySem.Str) (i : Nat) (m : PySem.Str → Option Value) (nx : List (Addr × Obj)) : Prop :=
  ∃ th tt a vs c left still, nx = (a, listOf (List.toArray vs) c) :: nx0 ∧ m (Str.ofString "there") = some (.str th tt) ∧ m (Str.ofString "left") = some (.ref a) ∧ m (Str.ofString "still") = some (.bool still) ∧
    (∀ z, z ≠ Str.ofString "k" → z ≠ Str.ofString "there" → z ≠ Str.ofString "left" → z ≠ Str.ofString "still" → m z = m₀ z) ∧ StrsAre vs left ∧ StepsOk folders i th left still
theorem frJ {h₀ h : Heap} {L : Addr} {m₀ m₁ : PySem.Str → Option Value} {v v1 v2 v3 : Value} (F : Fr h₀ L h (fun y => if y = Str.ofString "k" then some v else m₁ y))
    (h1 : m₁ (Str.ofString "there") = some v1) (h2 : m₁ (Str.ofString "left") = some v2) (h3 : m₁ (Str.ofString "still") = some v3)
    (h4 : ∀ z, z ≠ Str.ofString "k" → z ≠ Str.ofString "there" → z ≠ Str.ofString "left" → z ≠ Str.ofString "still" → m₁ z = m₀ z) :
    Fr h₀ L h (fun y => if y = Str.ofString "k" then some v else if y = Str.ofString "there" then some v1 else if y = Str.ofString "left" then some v2 else if y = Str.ofString "still" then some v3 else m₀ y) := by
  have e : (fun y => if y = Str.ofString "k" then some v else m₁ y) = (fun y => if y = Str.ofString "k" then some v else if y = Str.ofString "there" then some v1 else if y = Str.ofString "left" then some v2 else if y = Str.ofString "still" then some v3 else m₀ y) := by
    funext y
    by_cases e1 : y = Str.ofString "k"
    · rw [if_pos e1, if_pos e1]
    · rw [if_neg e1, if_neg e1]
      by_cases e2 : y = Str.ofString "there"
      · rw [if_pos e2, e2, h1]
      · rw [if_neg e2]
        by_cases e3 : y = Str.ofString "left"
        · rw [if_pos e3, e3, h2]
        · rw [if_neg e3]
          by_cases e4 : y = Str.ofString "still"
          · rw [if_pos e4, e4, h3]
          · rw [if_neg e4]; exact h4 y e1 e2 e3 e4
  rw [← e]; exact F
theorem frJ' {h₀ h : Heap} {L : Addr} {m₀ m₁ : PySem.Str → Option Value} {v1 v2 v3 : Value} (F : Fr h₀ L h m₁)
    (h1 : m₁ (Str.ofString "there") = some v1) (h2 : m₁ (Str.ofString "left") = some v2) (h3 : m₁ (Str.ofString "still") = some v3)
    (h4 : ∀ z, z ≠ Str.ofString "k" → z ≠ Str.ofString "there" → z ≠ Str.ofString "left" → z ≠ Str.ofString "still" → m₁ z = m₀ z) :
    Fr h₀ L h (fun y => if y = Str.ofString "k" then m₁ y else if y = Str.ofString "there" then some v1 else if y = Str.ofString "left" then some v2 else if y = Str.ofString "still" then some v3 else m₀ y) := by
  have e : m₁ = (fun y => if y = Str.ofString "k" then m₁ y else if y = Str.ofString "there" then some v1 else if y = Str.ofString "left" then some v2 else if y = Str.ofString "still" then some v3 else m₀ y) := by
    funext y
    by_cases e1 : y = Str.ofString "k"
    · rw [if_pos e1]
    · rw [if_neg e1]
      by_cases e2 : y = Str.ofString "there"
      · rw [if_pos e2, e2, h1]
      · rw [if_neg e2]
        by_cases e3 : y = Str.ofString "left"
        · rw [if_pos e3, e3, h2]
        · rw [if_neg e3]
          by_cases e4 : y = Str.ofString "still"
          · rw [if_pos e4, e4, h3]
          · rw [if_neg e4]; exact h4 y e1 e2 e3 e4
  rw [e] at F; exact F
end Mine

/-! part LB -/
namespace Mine
open PySem PySem.W PyProof.Rows
noncomputable def lawDef : PySem.Stmt := (PySem.Challenge.pw_ez0312_01.main.body.drop 7).headD (.Pass default)
noncomputable def bodyOf : PySem.Stmt → List PySem.Stmt
  | .FunctionDef _ _ b _ _ _ _ _ _ _ => b
  | _ => []
noncomputable def scopeOf : PySem.Stmt → Scope
  | .FunctionDef _ _ _ _ _ _ s _ _ _ => s
  | _ => default
noncomputable def lawBody : List PySem.Stmt := bodyOf lawDef
noncomputable def lawScope : Scope := scopeOf lawDef
abbrev hosts : List PySem.Str := [Str.ofString "//h", Str.ofString "//h:8", Str.ofString "//u@h.i"]
abbrev lasts : List PySem.Str := [Str.ofString "", Str.ofString "l", Str.ofString "m.n"]
abbrev starts : List PySem.Str := [Str.ofString "a:", Str.ofString "http:"]
abbrev tails : List PySem.Str := [Str.ofString "", Str.ofString "#", Str.ofString "#f", Str.ofString "#g/../h", Str.ofString "#i?"]
def HereOk (start root : PySem.Str) (folders : List PySem.Str) (here : PySem.Str) : Prop :=
  start ∈ starts ∧ (∃ host ∈ hosts, root = start ++ host) ∧ ((∃ last ∈ lasts, here = root ++ PySem.Str.join (Str.ofString "") (folders.map gPre) ++ Str.ofString "/" ++ last) ∨ (folders = [] ∧ here = root))
def RestOk (rest : PySem.Str) : Prop := ∃ names, AllN names ∧ names.length ≤ 3 ∧ rest = PySem.Str.join (Str.ofString "/") names
/-- what the rest of the law's body does, from the test of kind on -/
def KClaim (c : Int → Prop) : Prop :=
  ∀ (w : World) (mean : ExcName → Option Value) (mg mb u : PySem.Str → Option Value) (fa : Addr) (cd : Value) (h₀ : Heap) (L : Addr) (s : Shared) (R : Result → Shared → Prop) (co : Obj) (lf ls : Addr) (fvs svs : List Value)
    (folders : List PySem.Str) (ns : List Int) (cf : Nat) (kind : Int) (start root here tail rest : PySem.Str) (t1 t2 t3 t4 t5 t6 : Tok),
    Below callerA h₀ [] h₀ → (hd.heap_39 w.params).In h₀ → Top hd.view_39 (looseW hd.view_39 [Str.ofString "splitFragP", Str.ofString "_law_names"]) mean mg mb h₀ →
    h₀.IsList ls svs.toArray → IntsAre svs ns → ns.length ≤ 63 →
    Fr h₀ L s.heap (fun y => if y = Str.ofString "rest" then some (.str rest t1) else if y = Str.ofString "tail" then some (.str tail t2) else if y = Str.ofString "here" then some (.str here t3) else if y = Str.ofString "root" then some (.str root t4)
      else if y = Str.ofString "start" then some (.str start t5) else if y = Str.ofString "folders" then some (.ref lf) else if y = Str.ofString "kind" then some (.int kind t6) else u y) →
    News h₀ L s.heap [(lf, listOf fvs.toArray cf), (L + 1, co)] → co.data = .cell (some (.ref ls)) → L + 1 < lf →
    StrsAre fvs folders → AllN folders → folders.length ≤ 5 → HereOk start root folders here → tail ∈ tails → RestOk rest → c kind →
    (∀ h' tk m' nw, Fr h₀ L h' m' → News h₀ L h' nw → R (.ok (.ret (.bool true))) { s with heap := h', toks := tk }) →
    wpAny (model PySem.Challenge.rw_ez0312_01.row.prog w) (callerA.deeper (envOfC (Str.ofString "law") lawScope L fa cd)) (execs (lawBody.drop 10) (envOfC (Str.ofString "law") lawScope L fa cd))
      (fun fl s' => R (.ok (.ret (match fl with | .ret v => v | _ => .none))) s')
      (fun e s' => wpAny (model PySem.Challenge.rw_ez0312_01.row.prog w) (callerA.deeper (envOfC (Str.ofString "law") lawScope L fa cd)) (leaving (envOfC (Str.ofString "law") lawScope L fa cd) e) (fun _ s'' => R (.error e) s'') (fun e' s'' => R (.error e') s'') s') s
end Mine

/-! part F1 -/
namespace Mine
open PySem PySem.W PyProof.Rows PySem.Builtin PySem.Builtin.Str
abbrev ls (x : PySem.Str) : List Nat := x.cps.toList
theorem ls_app (x y : PySem.Str) : ls (x ++ y) = ls x ++ ls y := by simp [ls, Str.cps_append]
theorem ls_ext {x y : PySem.Str} (h : ls x = ls y) : x = y := Str.ext' (by simpa using h)
theorem ls_len (x : PySem.Str) : (ls x).length = x.length := (len_ls x).symm
theorem fromIndex_nat (len i : Nat) : fromIndex len (i : Int) = i := by
  unfold fromIndex
  have : ¬ ((i : Int) < 0) := by omega
  rw [if_neg this]; omega
theorem getD_ls {x : PySem.Str} {v c : Nat} (h : x.cps.getD v 0 = c) (hv : v < x.length) : (ls x)[v]? = some c := StrLaws.getElem?_of_getD hv h
/-- the first place of c from i on -/
theorem find3_at {x : PySem.Str} {c i : Nat} {p a b : List Nat} (e : ls x = p ++ (a ++ c :: b)) (hp : p.length = i) (ha : c ∉ a) : Txt.find3 x ⟨#[c]⟩ (i : Int) = ((i + a.length : Nat) : Int) := by
  have hl : x.length = p.length + (a.length + (b.length + 1)) := by rw [← ls_len, e]; simp
  have hc : (ls x)[i + a.length]? = some c := by
    rw [e, List.getElem?_append_right (by omega), List.getElem?_append_right (by omega)]
    simp [hp]
  have hno : ∀ v, i ≤ v → v < i + a.length → (ls x)[v]? ≠ some c := fun v h1 h2 h => by
    rw [e, List.getElem?_append_right (by omega), List.getElem?_append_left (by omega)] at h
    exact ha (List.mem_of_getElem? h)
  rcases StrLaws.find3_spec x c (i : Int) with ⟨_, hn⟩ | ⟨k, h, h1, h2, h3, h4⟩
  · rw [fromIndex_nat] at hn
    exact absurd (StrLaws.getD_of_getElem? hc) (hn _ (by omega) (by omega))
  · rw [fromIndex_nat] at h1 h4
    rw [h]
    have : k = i + a.length := by
      rcases Nat.lt_trichotomy k (i + a.length) with hlt | heq | hgt
      · exact absurd (getD_ls h3 h2) (hno k h1 hlt)
      · exact heq
      · exact absurd (StrLaws.getD_of_getElem? hc) (h4 _ (by omega) hgt)
    rw [this]
theorem find3_none {x : PySem.Str} {c i : Nat} (h : c ∉ (ls x).drop i) : Txt.find3 x ⟨#[c]⟩ (i : Int) = -1 := by
  rcases StrLaws.find3_spec x c (i : Int) with ⟨h0, _⟩ | ⟨k, _, h1, h2, h3, _⟩
  · exact h0
  · rw [fromIndex_nat] at h1
    refine absurd ?_ h
    have := getD_ls h3 h2
    refine List.mem_of_getElem? (i := k - i) ?_
    rw [List.getElem?_drop]
    rw [show i + (k - i) = k by omega]; exact this
theorem find_is3 (x y : PySem.Str) : Txt.find x y = Txt.find3 x y ((0 : Nat) : Int) := by
  unfold Txt.find3; rw [fromIndex_nat]; rfl
theorem find_at {x : PySem.Str} {c : Nat} {a b : List Nat} (e : ls x = a ++ c :: b) (ha : c ∉ a) : Txt.find x ⟨#[c]⟩ = (a.length : Int) := by
  rw [find_is3, find3_at (i := 0) (p := []) (by rw [e]; rfl) rfl ha]; simp
theorem find_none {x : PySem.Str} {c : Nat} (h : c ∉ ls x) : Txt.find x ⟨#[c]⟩ = -1 := by
  rw [find_is3, find3_none (by simpa using h)]
theorem At_one {x : PySem.Str} {c hi i : Nat} (hh : hi ≤ x.length) : StrLaws.At x ⟨#[c]⟩ hi i ↔ (i < hi ∧ (ls x)[i]? = some c) := by
  have h1 : (⟨#[c]⟩ : PySem.Str).length = 1 := rfl
  unfold StrLaws.At
  constructor
  · intro h
    exact ⟨by omega, (StrLaws.subAt_one x c i).mp ⟨by omega, h.2⟩⟩
  · intro h
    exact ⟨by omega, ((StrLaws.subAt_one x c i).mpr h.2).2⟩
theorem last_mem (s sub : PySem.Str) (hi : Nat) : ∀ (l : List Nat) (st : Option Nat) (a : Nat), (forIn l st (StrLaws.lastBody s sub hi)).run = some a → a ∈ l ∨ st = some a
  | [], st, a, h => .inr h
  | b :: l, st, a, h => by
    rw [List.forIn_cons] at h
    unfold StrLaws.lastBody at h
    split at h
    · rcases last_mem s sub hi l (some b) a h with h | h
      · exact .inl (.tail _ h)
      · exact .inl (by rw [Option.some.inj h]; exact .head _)
    · rcases last_mem s sub hi l st a h with h | h
      · exact .inl (.tail _ h)
      · exact .inr h
theorem last_specR (x y : PySem.Str) (lo hi : Nat) :
    (lastOccurrence x y lo hi = none ∧ ∀ i, lo ≤ i → ¬ StrLaws.At x y hi i) ∨ ∃ i, lastOccurrence x y lo hi = some i ∧ lo ≤ i ∧ StrLaws.At x y hi i ∧ ∀ k, i < k → ¬ StrLaws.At x y hi k := by
  rw [StrLaws.last_eq]
  have key := StrLaws.last_run x y hi (List.range' lo (hi + 1 - lo)) [] none (fun _ h => nomatch h) (fun _ h => nomatch h) (by simpa using List.pairwise_lt_range' (s := lo) (n := hi + 1 - lo))
  have mem : ∀ i, lo ≤ i → StrLaws.At x y hi i → i ∈ [] ++ List.range' lo (hi + 1 - lo) := fun i hlo hi' => by
    have := hi'.1
    rw [List.nil_append, List.mem_range'_1]; omega
  cases hr : (forIn (List.range' lo (hi + 1 - lo)) none (StrLaws.lastBody x y hi)).run with
  | none => rw [hr] at key; exact .inl ⟨rfl, fun i hlo hi' => key i (mem i hlo hi') hi'⟩
  | some a =>
    rw [hr] at key
    have hm : lo ≤ a := by
      rcases last_mem x y hi _ _ _ hr with h | h
      · exact (List.mem_range'_1.mp h).1
      · exact nomatch h
    exact .inr ⟨a, rfl, hm, key.1, fun k hk hA => key.2 k (mem k (by omega) hA) hk hA⟩
theorem rfind_at {x : PySem.Str} {c : Nat} {a b : List Nat} (e : ls x = a ++ c :: b) (hb : c ∉ b) : Txt.rfind x ⟨#[c]⟩ = (a.length : Int) := by
  have hl : x.length = a.length + (b.length + 1) := by rw [← ls_len, e]; simp
  have hc : (ls x)[a.length]? = some c := by rw [e]; simp
  have hno : ∀ v, a.length < v → (ls x)[v]? ≠ some c := fun v h1 h => by
    rw [e, List.getElem?_append_right (by omega)] at h
    obtain ⟨j, hj⟩ : ∃ j, v - a.length = j + 1 := ⟨v - a.length - 1, by omega⟩
    rw [hj, List.getElem?_cons_succ] at h
    exact hb (List.mem_of_getElem? h)
  unfold Txt.rfind
  rcases last_specR x ⟨#[c]⟩ 0 x.length with ⟨_, hn⟩ | ⟨i, h0, _, h1, h2⟩
  · exact absurd ((At_one (Nat.le_refl _)).mpr ⟨by omega, hc⟩) (hn a.length (by omega))
  · rw [h0]
    have h1 := (At_one (Nat.le_refl _)).mp h1
    have : i = a.length := by
      rcases Nat.lt_trichotomy i a.length with hlt | heq | hgt
      · exact absurd ((At_one (Nat.le_refl _)).mpr ⟨by omega, hc⟩) (h2 _ hlt)
      · exact heq
      · exact absurd h1.2 (hno _ hgt)
    rw [this]
theorem rfind_none {x : PySem.Str} {c : Nat} (h : c ∉ ls x) : Txt.rfind x ⟨#[c]⟩ = -1 := by
  unfold Txt.rfind
  rcases last_specR x ⟨#[c]⟩ 0 x.length with ⟨h0, _⟩ | ⟨i, _, _, h1, _⟩
  · rw [h0]
  · exact absurd (List.mem_of_getElem? ((At_one (Nat.le_refl _)).mp h1).2) h
theorem rfind4_at {x : PySem.Str} {c i j : Nat} {p a b q : List Nat} (e : ls x = p ++ (a ++ c :: (b ++ q))) (hp : p.length = i) (hj : i + (a.length + (b.length + 1)) = j) (hb : c ∉ b) : rfind4 x ⟨#[c]⟩ (i : Int) (j : Int) = ((i + a.length : Nat) : Int) := by
  have hl : x.length = p.length + (a.length + (b.length + q.length + 1)) := by rw [← ls_len, e]; simp
  have hc : (ls x)[i + a.length]? = some c := by
    rw [e, List.getElem?_append_right (by omega), List.getElem?_append_right (by omega)]
    simp [hp]
  have hno : ∀ v, i + a.length < v → v < j → (ls x)[v]? ≠ some c := fun v h1 h2 h => by
    rw [e, List.getElem?_append_right (by omega), List.getElem?_append_right (by omega)] at h
    obtain ⟨k, hk⟩ : ∃ k, v - p.length - a.length = k + 1 := ⟨v - p.length - a.length - 1, by omega⟩
    rw [hk, List.getElem?_cons_succ, List.getElem?_append_left (by omega)] at h
    exact hb (List.mem_of_getElem? h)
  unfold rfind4
  rw [fromIndex_nat, fromIndex_nat, Nat.min_eq_left (by omega)]
  rcases last_specR x ⟨#[c]⟩ i j with ⟨_, hn⟩ | ⟨k, h0, hlo, h1, h2⟩
  · exact absurd ((At_one (by omega)).mpr ⟨by omega, hc⟩) (hn (i + a.length) (by omega))
  · rw [h0]
    have h1 := (At_one (by omega)).mp h1
    have : k = i + a.length := by
      rcases Nat.lt_trichotomy k (i + a.length) with hlt | heq | hgt
      · exact absurd ((At_one (by omega)).mpr ⟨by omega, hc⟩) (h2 _ hlt)
      · exact heq
      · exact absurd h1.2 (hno _ hgt h1.1)
    rw [this]
theorem rfind4_none {x : PySem.Str} {c i : Nat} (hi : i ≤ x.length) : rfind4 x ⟨#[c]⟩ (i : Int) (i : Int) = -1 := by
  unfold rfind4
  rw [fromIndex_nat, Nat.min_eq_left hi]
  rcases last_specR x ⟨#[c]⟩ i i with ⟨h0, _⟩ | ⟨k, _, hlo, h1, _⟩
  · rw [h0]
  · have := ((At_one hi).mp h1).1
    omega
end Mine

/-! part F2 -/
namespace Mine
open PySem PySem.W PyProof.Rows PySem.Builtin PySem.Builtin.Str
theorem sl_is : PySem.Str.ofString "/" = ⟨#[47]⟩ := by decide +kernel
theorem col_is : PySem.Str.ofString ":" = ⟨#[58]⟩ := by decide +kernel
theorem hash_is : PySem.Str.ofString "#" = ⟨#[35]⟩ := by decide +kernel
/-- the folders, each behind its slash; each ahead of it -/
def PP : List PySem.Str → List Nat
  | [] => []
  | f :: r => 47 :: (ls f ++ PP r)
def SS : List PySem.Str → List Nat
  | [] => []
  | f :: r => ls f ++ (47 :: SS r)
theorem PP_SS : ∀ (fs : List PySem.Str) (t : List Nat), PP fs ++ 47 :: t = 47 :: (SS fs ++ t)
  | [], t => rfl
  | f :: r, t => by
    show 47 :: ((ls f ++ PP r) ++ 47 :: t) = 47 :: ((ls f ++ (47 :: SS r)) ++ t)
    rw [List.append_assoc, PP_SS r t]; simp
theorem PP_snoc : ∀ (fs : List PySem.Str) (f : PySem.Str), PP (fs ++ [f]) = PP fs ++ 47 :: ls f
  | [], f => by simp [PP]
  | g :: r, f => by
    show 47 :: (ls g ++ PP (r ++ [f])) = 47 :: (ls g ++ PP r) ++ 47 :: ls f
    rw [PP_snoc r f]; simp
theorem loopF_succ (bp : Int) (n : Nat) (h p : PySem.Str) (s : Int) : loopF bp (n + 1) h p s = (
    if (cutF p == Str.ofString ".") = true then loopF bp n h (Str.ofString "") s
    else if (Txt.slice (cutF p) none (some 3) == Str.ofString "../") = true ∨ (cutF p == Str.ofString "..") = true then
      if 0 ≤ rfind4 h (Str.ofString "/") bp s then loopF bp n (Txt.slice h none (some (rfind4 h (Str.ofString "/") bp s + 1))) (Txt.slice (cutF p) (some 3) none) (rfind4 h (Str.ofString "/") bp s)
      else loopF bp n h (Txt.slice (cutF p) (some 3) none) s
    else (h, cutF p, s)) := rfl
theorem slice3 (x : PySem.Str) : ls (Txt.slice x none (some 3)) = (ls x).take 3 := sl_to x 3
theorem slice2 (x : PySem.Str) : ls (Txt.slice x none (some 2)) = (ls x).take 2 := sl_to x 2
theorem from3 (x : PySem.Str) : ls (Txt.slice x (some 3) none) = (ls x).drop 3 := sl_from x 3
theorem from2 (x : PySem.Str) : ls (Txt.slice x (some 2) none) = (ls x).drop 2 := sl_from x 2
theorem cutF_here {p : PySem.Str} {q : List Nat} (h : ls p = 46 :: 47 :: q) : ls (cutF p) = q := by
  unfold cutF
  rw [if_pos (str_eq_iff.mpr (by rw [ofStr_dotslash]; exact (slice2 p).trans (by rw [h]; rfl)))]
  rw [from2, h]; rfl
theorem cutF_same {p : PySem.Str} (h : (ls p).take 2 ≠ [46, 47]) : cutF p = p := by
  unfold cutF
  rw [if_neg]
  intro e
  have := str_eq_iff.mp e
  rw [ofStr_dotslash] at this
  exact h ((slice2 p).symm.trans this)
theorem ne_dot {p : PySem.Str} (h : ls p ≠ [46]) : ¬ (p == Str.ofString ".") = true := fun e => h (by have := str_eq_iff.mp e; rwa [ofStr_dot] at this)
theorem ne_dd {p : PySem.Str} (h : ls p ≠ [46, 46]) : ¬ (p == Str.ofString "..") = true := fun e => h (by have := str_eq_iff.mp e; rwa [ofStr_dd] at this)
theorem ne_dds {p : PySem.Str} (h : (ls p).take 3 ≠ [46, 46, 47]) : ¬ (Txt.slice p none (some 3) == Str.ofString "../") = true := fun e => h (by have := str_eq_iff.mp e; rw [ofStr_dds] at this; exact (slice3 p).symm.trans this)
/-- the loop at a step up -/
theorem loop_up {rt lst : List Nat} {fs : List PySem.Str} {h p : PySem.Str} {n : Nat} (hh : ls h = rt ++ (PP fs ++ 47 :: lst)) (hfs : ∀ f ∈ fs, 47 ∉ ls f)
    (hp : (∃ q, ls (cutF p) = 46 :: 46 :: 47 :: q) ∨ ls (cutF p) = [46, 46]) :
    ∃ h' q lst', ls q = (ls (cutF p)).drop 3 ∧ ls h' = rt ++ (PP fs.dropLast ++ 47 :: lst') ∧
      loopF (rt.length : Int) (n + 1) h p ((rt.length + (PP fs).length : Nat) : Int) = loopF (rt.length : Int) n h' q ((rt.length + (PP fs.dropLast).length : Nat) : Int) := by
  have hd : ¬ (cutF p == Str.ofString ".") = true := ne_dot (by rcases hp with ⟨q, e⟩ | e <;> rw [e] <;> simp)
  have hu : (Txt.slice (cutF p) none (some 3) == Str.ofString "../") = true ∨ (cutF p == Str.ofString "..") = true := by
    rcases hp with ⟨q, e⟩ | e
    · exact .inl (str_eq_iff.mpr (by rw [ofStr_dds]; exact (slice3 _).trans (by rw [e]; rfl)))
    · exact .inr (str_eq_iff.mpr (by rw [ofStr_dd]; exact e))
  rw [loopF_succ, if_neg hd, if_pos hu, sl_is]
  rcases List.eq_nil_or_concat fs with rfl | ⟨gs, f, rfl⟩
  · have e : rfind4 h ⟨#[47]⟩ (rt.length : Int) ((rt.length + (PP []).length : Nat) : Int) = -1 := rfind4_none (by rw [← ls_len, hh]; simp)
    rw [e, if_neg (by omega)]
    exact ⟨h, _, lst, from3 _, hh, rfl⟩
  · have hf : 47 ∉ ls f := hfs f (by simp)
    rw [List.concat_eq_append] at hh ⊢
    have e : rfind4 h ⟨#[47]⟩ (rt.length : Int) ((rt.length + (PP (gs ++ [f])).length : Nat) : Int) = ((rt.length + (PP gs).length : Nat) : Int) := by
      refine rfind4_at (p := rt) (a := PP gs) (b := ls f) (q := 47 :: lst) ?_ rfl ?_ hf
      · rw [hh, PP_snoc]; simp
      · rw [PP_snoc]; simp
    rw [e, if_pos (by omega), List.dropLast_concat]
    refine ⟨_, _, [], from3 _, ?_, rfl⟩
    have e2 := sl_to h (rt.length + (PP gs).length + 1)
    refine Eq.trans (show _ = _ from e2) ?_
    show List.take _ (ls h) = _
    rw [hh, PP_snoc]
    have : rt ++ ((PP gs ++ 47 :: ls f) ++ 47 :: lst) = (rt ++ (PP gs ++ [47])) ++ (ls f ++ 47 :: lst) := by simp
    rw [this, List.take_left' (by simp; omega)]
/-- the loop ends -/
theorem loop_end {bp : Int} {n : Nat} {h p : PySem.Str} {s : Int} (h1 : ls (cutF p) ≠ [46]) (h2 : (ls (cutF p)).take 3 ≠ [46, 46, 47]) (h3 : ls (cutF p) ≠ [46, 46]) : loopF bp (n + 1) h p s = (h, cutF p, s) := by
  rw [loopF_succ, if_neg (ne_dot h1), if_neg]
  rintro (e | e)
  · exact ne_dds h2 e
  · exact ne_dd h3 e
theorem lsE : ls (Str.ofString "") = [] := ofStr_e
theorem loop_dot {bp : Int} {n : Nat} {h p : PySem.Str} {s : Int} (h1 : ls (cutF p) = [46]) : loopF bp (n + 2) h p s = (h, Str.ofString "", s) := by
  rw [loopF_succ, if_pos (str_eq_iff.mpr (by rw [ofStr_dot]; exact h1))]
  have e : cutF (Str.ofString "") = Str.ofString "" := cutF_same (by rw [lsE]; simp)
  rw [loop_end (by rw [e, lsE]; simp) (by rw [e, lsE]; simp) (by rw [e, lsE]; simp), e]
theorem ls_steps_t (r : List Bool) : ls (stepsTxt (true :: r)) = 46 :: 46 :: 47 :: ls (stepsTxt r) := by
  show ls (Str.ofString "../" ++ stepsTxt r) = _
  rw [ls_app, ls, ofStr_dds]; rfl
theorem ls_steps_f (r : List Bool) : ls (stepsTxt (false :: r)) = 46 :: 47 :: ls (stepsTxt r) := by
  show ls (Str.ofString "./" ++ stepsTxt r) = _
  rw [ls_app, ls, ofStr_dotslash]; rfl
theorem ls_steps_e : ls (stepsTxt []) = [] := ofStr_e
/-- the loop over the steps: what is left is nothing or one step here -/
theorem loop_steps {rt e : List Nat} : ∀ (k : Nat) (l : List Bool), l.length ≤ k → NoTwo l → ∀ (fs : List PySem.Str) (lst : List Nat) (h p : PySem.Str) (n : Nat), (∀ f ∈ fs, 47 ∉ ls f) → ls h = rt ++ (PP fs ++ 47 :: lst) → ls p = ls (stepsTxt l) ++ e → p.length + 1 ≤ n →
    ∃ r, (r = [] ∨ r = [false]) ∧ ∃ h' p' lst' n', ls h' = rt ++ (PP (ups l fs) ++ 47 :: lst') ∧ ls p' = ls (stepsTxt r) ++ e ∧ p'.length + 1 ≤ n' ∧
      loopF (rt.length : Int) n h p ((rt.length + (PP fs).length : Nat) : Int) = loopF (rt.length : Int) n' h' p' ((rt.length + (PP (ups l fs)).length : Nat) : Int)
  | k, [], _, _, fs, lst, h, p, n, _, hh, hp, hn => ⟨[], .inl rfl, h, p, lst, n, hh, hp, hn, rfl⟩
  | k, [false], _, _, fs, lst, h, p, n, _, hh, hp, hn => ⟨[false], .inr rfl, h, p, lst, n, hh, hp, hn, rfl⟩
  | 0, true :: r, hk, _, fs, lst, h, p, n, _, hh, hp, hn => absurd hk (by simp)
  | 0, false :: true :: r, hk, _, fs, lst, h, p, n, _, hh, hp, hn => absurd hk (by simp)
  | k, false :: false :: r, _, h2, fs, lst, h, p, n, _, hh, hp, hn => absurd rfl (h2.1)
  | k + 1, true :: r, hk, h2, fs, lst, h, p, n, hfs, hh, hp, hn => by
    obtain ⟨n, rfl⟩ : ∃ m, n = m + 1 := ⟨n - 1, by omega⟩
    rw [ls_steps_t] at hp
    have hc : cutF p = p := cutF_same (by rw [hp]; simp)
    obtain ⟨h', q, lst', e1, e2, e3⟩ := loop_up (n := n) hh hfs (.inl ⟨_, by rw [hc, hp]; rfl⟩)
    rw [hc, hp] at e1
    have e1 : ls q = ls (stepsTxt r) ++ e := e1
    have hl : q.length + 3 = p.length := by rw [← ls_len, ← ls_len, hp, e1]; simp
    obtain ⟨r', hr, h'', p', l', n', a1, a2, a3, a4⟩ := loop_steps k r (by simpa using hk) h2 fs.dropLast lst' h' q n (fun f hf => hfs f (List.dropLast_subset _ hf)) e2 e1 (by omega)
    exact ⟨r', hr, h'', p', l', n', a1, a2, a3, e3.trans a4⟩
  | k + 1, false :: true :: r, hk, h2, fs, lst, h, p, n, hfs, hh, hp, hn => by
    obtain ⟨n, rfl⟩ : ∃ m, n = m + 1 := ⟨n - 1, by omega⟩
    rw [ls_steps_f, ls_steps_t] at hp
    have hc : ls (cutF p) = 46 :: 46 :: 47 :: (ls (stepsTxt r) ++ e) := cutF_here (by rw [hp]; rfl)
    obtain ⟨h', q, lst', e1, e2, e3⟩ := loop_up (n := n) hh hfs (.inl ⟨_, hc⟩)
    rw [hc] at e1
    have e1 : ls q = ls (stepsTxt r) ++ e := e1
    have hl : q.length + 5 = p.length := by rw [← ls_len, ← ls_len, hp, e1]; simp
    obtain ⟨r', hr, h'', p', l', n', a1, a2, a3, a4⟩ := loop_steps k r (by simp at hk; omega) h2.2 fs.dropLast lst' h' q n (fun f hf => hfs f (List.dropLast_subset _ hf)) e2 e1 (by omega)
    exact ⟨r', hr, h'', p', l', n', a1, a2, a3, e3.trans a4⟩
end Mine

/-! part F3 -/
namespace Mine
open PySem PySem.W PyProof.Rows PySem.Builtin PySem.Builtin.Str
def okN (l : List Nat) : Bool := l.all (fun c => c != 47 && c != 35 && c != 58 && decide (c < 128)) && (match l with | [] => false | c :: _ => c != 46 || (l.take 3 == [46, 46, 102]))
def okT (l : List Nat) : Bool := match l with | [] => true | c :: u => c == 35 && u.all (fun c => c != 35 && c != 58 && decide (c < 128))
def Plain (l : List Nat) : Prop := l = [] ∨ (∃ c t, l = c :: t ∧ c ≠ 46 ∧ c ≠ 47) ∨ ∃ t, l = 46 :: 46 :: 102 :: t
def Good (l : List Nat) : Prop := ∀ c ∈ l, c ≠ 35 ∧ c ≠ 58 ∧ c < 128
def Low (l : List Nat) : Prop := ∀ c ∈ l, c < 128
theorem Good.app {a b : List Nat} (h1 : Good a) (h2 : Good b) : Good (a ++ b) := fun c hc => by
  rcases List.mem_append.mp hc with h | h
  · exact h1 c h
  · exact h2 c h
theorem Low.app {a b : List Nat} (h1 : Low a) (h2 : Low b) : Low (a ++ b) := fun c hc => by
  rcases List.mem_append.mp hc with h | h
  · exact h1 c h
  · exact h2 c h
theorem Good.low {a : List Nat} (h : Good a) : Low a := fun c hc => (h c hc).2.2
theorem Low.ok {x : PySem.Str} (h : Low (ls x)) : PyData.strOk x = true := by
  unfold PyData.strOk
  rw [Array.all_eq_true']
  intro c hc
  have := h c (by simpa [ls] using hc)
  exact decide_eq_true (by omega)
theorem Good.h35 {a : List Nat} (h : Good a) : 35 ∉ a := fun hc => (h _ hc).1 rfl
theorem Good.h58 {a : List Nat} (h : Good a) : 58 ∉ a := fun hc => (h _ hc).2.1 rfl
theorem Good.ofB {l : List Nat} (h : l.all (fun c => c != 35 && c != 58 && decide (c < 128)) = true) : Good l := fun c hc => by
  have := List.all_eq_true.mp h c hc
  simp at this
  omega
theorem Low.ofB {l : List Nat} (h : l.all (fun c => decide (c < 128)) = true) : Low l := fun c hc => by
  have := List.all_eq_true.mp h c hc
  simpa using this
theorem names_ok : ∀ x ∈ lawNames, okN (ls x) = true := by decide +kernel
theorem tails_ok : ∀ x ∈ tails, okT (ls x) = true := by decide +kernel
theorem name_47 {x : PySem.Str} (h : x ∈ lawNames) : 47 ∉ ls x := fun hc => by
  have h1 := names_ok x h
  unfold okN at h1
  rw [Bool.and_eq_true] at h1
  have := List.all_eq_true.mp h1.1 _ hc
  simp at this
theorem name_good {x : PySem.Str} (h : x ∈ lawNames) : Good (ls x) := fun c hc => by
  have h1 := names_ok x h
  unfold okN at h1
  rw [Bool.and_eq_true] at h1
  have := List.all_eq_true.mp h1.1 _ hc
  simp at this
  omega
theorem name_plain {x : PySem.Str} (h : x ∈ lawNames) (t : List Nat) : Plain (ls x ++ t) := by
  have h1 := names_ok x h
  have h47 := name_47 h
  unfold okN at h1
  rw [Bool.and_eq_true] at h1
  have h2 := h1.2
  generalize ls x = l at h2 h47
  match l, h2 with
  | [], h2 => cases h2
  | c :: u, h2 =>
    by_cases hc : c = 46
    · subst hc
      have h3 : ((46 :: u).take 3 == [46, 46, 102]) = true := by simpa using h2
      have h3 := eq_of_beq h3
      match u, h3 with
      | a :: b :: v, h3 =>
        simp at h3
        obtain ⟨rfl, rfl⟩ := h3
        exact .inr (.inr ⟨v ++ t, rfl⟩)
    · exact .inr (.inl ⟨c, u ++ t, rfl, hc, fun e => h47 (by rw [e]; exact .head _)⟩)
theorem Good_sl : Good [47] := fun c hc => by rw [List.mem_singleton.mp hc]; decide
theorem ls_join_cons (sep x y : PySem.Str) (r : List PySem.Str) : ls (PySem.Str.join sep (x :: y :: r)) = ls x ++ (ls sep ++ ls (PySem.Str.join sep (y :: r))) := by
  show ls (x ++ sep ++ PySem.Str.join sep (y :: r)) = _
  rw [ls_app, ls_app, List.append_assoc]
theorem lsSl : ls (Str.ofString "/") = [47] := ofStr_sl
theorem join_good : ∀ {names : List PySem.Str}, AllN names → Good (ls (PySem.Str.join (Str.ofString "/") names))
  | [], _ => fun c hc => nomatch hc
  | [x], h => name_good (h x (.head _))
  | x :: y :: r, h => by
    rw [ls_join_cons, lsSl]
    exact (name_good (h x (.head _))).app (Good_sl.app (join_good (names := y :: r) fun z hz => h z (.tail _ hz)))
theorem rest_view {rest : PySem.Str} (hR : RestOk rest) : Good (ls rest) ∧ Plain (ls rest) := by
  obtain ⟨names, hN, _, rfl⟩ := hR
  refine ⟨join_good hN, ?_⟩
  match names, hN with
  | [], _ => exact .inl rfl
  | [x], h => have := name_plain (h x (.head _)) []; rwa [List.append_nil] at this
  | x :: y :: r, h => rw [ls_join_cons]; exact name_plain (h x (.head _)) _
theorem tail_view {tail : PySem.Str} (h : tail ∈ tails) : (ls tail = [] ∨ ∃ u, ls tail = 35 :: u ∧ 35 ∉ u) ∧ 58 ∉ ls tail ∧ Low (ls tail) := by
  have h1 := tails_ok tail h
  generalize ls tail = l at h1
  match l, h1 with
  | [], _ => exact ⟨.inl rfl, by simp, fun c hc => nomatch hc⟩
  | c :: u, h1 =>
    unfold okT at h1
    simp only [Bool.and_eq_true, beq_iff_eq] at h1
    obtain ⟨rfl, h1⟩ := h1
    have g := Good.ofB h1
    refine ⟨.inr ⟨u, rfl, g.h35⟩, ?_, ?_⟩
    · intro hc
      rcases List.mem_cons.mp hc with hc | hc
      · cases hc
      · exact g.h58 hc
    · intro c hc
      rcases List.mem_cons.mp hc with hc | hc
      · omega
      · exact g.low c hc
theorem sp_view {path tail : PySem.Str} (hp : 35 ∉ ls path) (hT : tail ∈ tails) : spP (path ++ tail) = path ∧ spF (path ++ tail) = tail := by
  rcases (tail_view hT).1 with h | ⟨u, h, hu⟩
  · have e : path ++ tail = path := ls_ext (by rw [ls_app, h, List.append_nil])
    have e2 : Str.ofString "" = tail := ls_ext (by rw [h]; exact lsE)
    have e3 : ¬ (0 ≤ Txt.rfind path (Str.ofString "#")) := by rw [hash_is, rfind_none hp]; omega
    unfold spP spF
    rw [e, if_neg e3, if_neg e3]
    exact ⟨rfl, e2⟩
  · have e3 : Txt.rfind (path ++ tail) (Str.ofString "#") = ((ls path).length : Int) := by rw [hash_is]; exact rfind_at (by rw [ls_app, h]) hu
    unfold spP spF
    rw [e3, if_pos (by omega), if_pos (by omega)]
    refine ⟨ls_ext ((sl_to _ _).trans ?_), ls_ext ((sl_from _ _).trans ?_)⟩
    · show List.take _ (ls _) = _
      rw [ls_app]; exact List.take_left' rfl
    · show List.drop _ (ls _) = _
      rw [ls_app]; exact List.drop_left' rfl
theorem ls_pre : ∀ fs : List PySem.Str, ls (PySem.Str.join (Str.ofString "") (fs.map gPre)) = PP fs
  | [] => rfl
  | [f] => by show ls (gPre f) = _; rw [ls_app, lsSl]; simp [PP]
  | f :: g :: r => by
    show ls (PySem.Str.join (Str.ofString "") (gPre f :: gPre g :: r.map gPre)) = _
    rw [ls_join_cons, lsE, show (gPre g :: r.map gPre) = (g :: r).map gPre from rfl, ls_pre (g :: r), ls_app, lsSl]
    rfl
theorem ls_suf : ∀ fs : List PySem.Str, ls (PySem.Str.join (Str.ofString "") (fs.map gSuf)) = SS fs
  | [] => rfl
  | [f] => by show ls (gSuf f) = _; rw [ls_app, lsSl]; simp [SS]
  | f :: g :: r => by
    show ls (PySem.Str.join (Str.ofString "") (gSuf f :: gSuf g :: r.map gSuf)) = _
    rw [ls_join_cons, lsE, show (gSuf g :: r.map gSuf) = (g :: r).map gSuf from rfl, ls_suf (g :: r), ls_app, lsSl]
    simp [SS]
theorem PP_low : ∀ {fs : List PySem.Str}, AllN fs → Low (PP fs)
  | [], _ => fun c hc => nomatch hc
  | f :: r, h => fun c hc => by
    rcases List.mem_cons.mp hc with hc | hc
    · omega
    · exact ((name_good (h f (.head _))).low.app (PP_low (fs := r) fun z hz => h z (.tail _ hz))) c hc
theorem SS_low : ∀ {fs : List PySem.Str}, AllN fs → Low (SS fs)
  | [], _ => fun c hc => nomatch hc
  | f :: r, h => (name_good (h f (.head _))).low.app fun c hc => by
    rcases List.mem_cons.mp hc with hc | hc
    · omega
    · exact (SS_low (fs := r) fun z hz => h z (.tail _ hz)) c hc
theorem start_view {start : PySem.Str} (h : start ∈ starts) : ∃ s0, ls start = s0 ++ [58] ∧ 58 ∉ s0 ∧ Low s0 ∧ s0.length ≤ 4 := by
  rcases List.mem_cons.mp h with rfl | h
  · exact ⟨[97], by decide +kernel, by decide, .ofB (by decide), by decide⟩
  · rw [List.mem_singleton.mp h]
    exact ⟨[104, 116, 116, 112], by decide +kernel, by decide, .ofB (by decide), by decide⟩
theorem host_view {host : PySem.Str} (h : host ∈ hosts) : ∃ h0, ls host = 47 :: 47 :: h0 ∧ 47 ∉ h0 ∧ Low h0 ∧ h0.length ≤ 8 := by
  rcases List.mem_cons.mp h with rfl | h
  · exact ⟨[104], by decide +kernel, by decide, .ofB (by decide), by decide⟩
  · rcases List.mem_cons.mp h with rfl | h
    · exact ⟨[104, 58, 56], by decide +kernel, by decide, .ofB (by decide), by decide⟩
    · rw [List.mem_singleton.mp h]
      exact ⟨[117, 64, 104, 46, 105], by decide +kernel, by decide, .ofB (by decide), by decide⟩
theorem last_view {last : PySem.Str} (h : last ∈ lasts) : 47 ∉ ls last ∧ Low (ls last) ∧ (ls last).length ≤ 3 := by
  have : ∀ x ∈ lasts, ((ls x).all (fun c => c != 47 && decide (c < 128)) && decide ((ls x).length ≤ 3)) = true := by decide +kernel
  have h1 := this last h
  rw [Bool.and_eq_true] at h1
  refine ⟨fun hc => ?_, fun c hc => ?_, of_decide_eq_true h1.2⟩
  · have := List.all_eq_true.mp h1.1 _ hc
    simp at this
  · have := List.all_eq_true.mp h1.1 _ hc
    simp at this; omega
def h1Of (here : PySem.Str) : PySem.Str := if f3 here < 0 then here ++ Str.ofString "/" else here
def bpOf (here : PySem.Str) : Int := if f3 here < 0 then (here.length : Int) else f3 here
theorem here_view {start root here : PySem.Str} {folders : List PySem.Str} (hh : HereOk start root folders here) (hN : AllN folders) :
    ∃ s0 last h0 u, ls start = s0 ++ [58] ∧ ls root = s0 ++ 58 :: 47 :: 47 :: h0 ∧ ls here = s0 ++ 58 :: 47 :: 47 :: u ∧ 58 ∉ s0 ∧ Low (ls start) ∧ Low (ls root) ∧ Low (ls here) ∧ 47 ∉ last ∧
      ls (h1Of here) = ls root ++ (PP folders ++ 47 :: last) ∧ bpOf here = ((ls root).length : Int) := by
  obtain ⟨hs, ⟨host, hho, rfl⟩, hx⟩ := hh
  obtain ⟨s0, e0, n0, l0, _⟩ := start_view hs
  obtain ⟨h0, e1, n1, l1, _⟩ := host_view hho
  have l58 : Low [58] := .ofB (by decide)
  have l47 : Low [47] := .ofB (by decide)
  have lst : Low (ls start) := by rw [e0]; exact l0.app l58
  have er : ls (start ++ host) = s0 ++ 58 :: 47 :: 47 :: h0 := by rw [ls_app, e0, e1]; simp
  have lr : Low (ls (start ++ host)) := by rw [ls_app, e1]; exact lst.app (l47.app (l47.app l1))
  have er2 : ls (start ++ host) = (s0 ++ [58, 47, 47]) ++ h0 := by rw [er]; simp
  have hlen : (ls (start ++ host)).length = s0.length + 3 + h0.length := by rw [er2]; simp; omega
  rcases hx with ⟨last, hla, rfl⟩ | ⟨rfl, rfl⟩
  · obtain ⟨n2, l2, _⟩ := last_view hla
    have eh : ls (start ++ host ++ PySem.Str.join (Str.ofString "") (folders.map gPre) ++ Str.ofString "/" ++ last) = ls (start ++ host) ++ (PP folders ++ 47 :: ls last) := by
      rw [ls_app, ls_app, ls_app _ (PySem.Str.join _ _), ls_pre, lsSl]; simp
    generalize hhe : start ++ host ++ PySem.Str.join (Str.ofString "") (folders.map gPre) ++ Str.ofString "/" ++ last = here at eh
    have eh2 : ls here = s0 ++ 58 :: 47 :: 47 :: (h0 ++ (PP folders ++ 47 :: ls last)) := by rw [eh, er]; simp
    have hf : Txt.find here (Str.ofString ":") = (s0.length : Int) := by rw [col_is]; exact find_at eh2 n0
    have h3 : f3 here = ((ls (start ++ host)).length : Int) := by
      unfold f3
      rw [hf, sl_is, hlen]
      exact find3_at (i := s0.length + 3) (p := s0 ++ [58, 47, 47]) (a := h0) (b := SS folders ++ ls last) (by rw [eh, er2, PP_SS]; simp) (by simp) n1
    refine ⟨s0, ls last, h0, _, e0, er, eh2, n0, lst, lr, ?_, n2, ?_, ?_⟩
    · rw [eh]; exact lr.app ((PP_low hN).app (l47.app l2))
    · unfold h1Of; rw [if_neg (by omega)]; exact eh
    · unfold bpOf; rw [if_neg (by omega)]; exact h3
  · have hf : Txt.find (start ++ host) (Str.ofString ":") = (s0.length : Int) := by rw [col_is]; exact find_at er n0
    have h3 : f3 (start ++ host) = -1 := by
      unfold f3
      rw [hf, sl_is]
      refine find3_none (i := s0.length + 3) ?_
      rw [er2, List.drop_left' (by simp)]; exact n1
    refine ⟨s0, [], h0, _, e0, er, er, n0, lst, lr, lr, by simp, ?_, ?_⟩
    · unfold h1Of; rw [if_pos (by omega), ls_app, lsSl]; rfl
    · unfold bpOf; rw [if_pos (by omega), ls_len]
end Mine

/-! part F4 -/
namespace Mine
open PySem PySem.W PyProof.Rows PySem.Builtin PySem.Builtin.Str
theorem tail_len {tail : PySem.Str} (hT : tail ∈ tails) : tail.length ≤ 7 := by
  have : ∀ y ∈ tails, y.length ≤ 7 := by decide +kernel
  exact this _ hT
theorem rest_len {rest : PySem.Str} (hR : RestOk rest) : rest.length ≤ 27 := by
  obtain ⟨ns, h1, h2, rfl⟩ := hR
  have h := join_len (x := Str.ofString "/") h1.le
  rw [ofStr_sl_len] at h
  omega
abbrev ends : List PySem.Str := [Str.ofString "", Str.ofString ".", Str.ofString ".."]
theorem ends_len (k : Nat) : ([Str.ofString "", Str.ofString ".", Str.ofString ".."].getD k PySem.Str.empty).length ≤ 2 := by
  by_cases h : k < 3
  · have hm : ends.getD k PySem.Str.empty ∈ ends := getD_mem h
    have : ∀ y ∈ ends, y.length ≤ 2 := by decide +kernel
    exact this _ hm
  · rw [List.getD_eq_getElem?_getD, List.getElem?_eq_none (by simp; omega)]
    exact Nat.zero_le _
theorem ends_mem (k : Nat) : [Str.ofString "", Str.ofString ".", Str.ofString ".."].getD k PySem.Str.empty ∈ ends := by
  by_cases h : k < 3
  · exact getD_mem (l := ends) h
  · rw [List.getD_eq_getElem?_getD, List.getElem?_eq_none (by simp; omega)]
    have e : Option.getD none PySem.Str.empty = Str.ofString "" := by decide +kernel
    rw [e]; exact List.Mem.head _
theorem here_len {start root here : PySem.Str} {folders : List PySem.Str} (hh : HereOk start root folders here) (hN : AllN folders) (hfl : folders.length ≤ 5) : here.length ≤ 200 ∧ root.length ≤ 20 ∧ start.length ≤ 5 := by
  obtain ⟨hs, ⟨host, hho, rfl⟩, hx⟩ := hh
  obtain ⟨s0, e0, _, _, m0⟩ := start_view hs
  obtain ⟨h0, e1, _, _, m1⟩ := host_view hho
  have a1 : start.length ≤ 5 := by rw [← ls_len, e0]; simp; omega
  have a2 : host.length ≤ 10 := by rw [← ls_len, e1]; simp; omega
  have a3 : (start ++ host).length ≤ 20 := by rw [Str.length_append]; omega
  refine ⟨?_, a3, a1⟩
  rcases hx with ⟨last, hla, rfl⟩ | ⟨_, rfl⟩
  · obtain ⟨_, _, m2⟩ := last_view hla
    rw [ls_len] at m2
    have h := join_len (x := Str.ofString "") hN.pre
    rw [ofStr_e_len, List.length_map] at h
    simp only [Str.length_append, ofStr_sl_len] at a3 ⊢
    omega
  · omega
section
variable {start root here tail rest : PySem.Str} {folders : List PySem.Str}
/-- the first way to JoinsTo: no colon there -/
theorem joins_first {there r : PySem.Str} (hh : HereOk start root folders here) (hN : AllN folders) (hfl : folders.length ≤ 5) (h58 : 58 ∉ ls there) (hl : there.length ≤ 2000) (hr : r = joinF here there) (ho : Low (ls r)) : JoinsTo here there r := by
  have hz := (here_len hh hN hfl).1
  obtain ⟨s0, last, h0, u, _, _, e, n0, _⟩ := here_view hh hN
  have hf : Txt.find here (Str.ofString ":") = (s0.length : Int) := by rw [col_is]; exact find_at e n0
  have hf2 : Txt.find there (Str.ofString ":") = -1 := by rw [col_is]; exact find_none h58
  refine ⟨by omega, hl, ho.ok, .inl ⟨by omega, by omega, ?_, ?_, hr⟩⟩
  · have h1 := sl_mid here (s0.length + 1) (s0.length + 2)
    have h2 : Txt.slice here (some (Txt.find here (Str.ofString ":") + 1)) (some (Txt.find here (Str.ofString ":") + 2)) = Str.ofString "/" := by
      rw [hf]
      refine ls_ext (h1.trans ?_)
      rw [lsSl]
      show List.take _ (List.drop _ (ls here)) = _
      rw [e, show s0 ++ 58 :: 47 :: 47 :: u = (s0 ++ [58]) ++ 47 :: 47 :: u by simp, List.drop_left' (by simp)]
      rw [show s0.length + 2 - (s0.length + 1) = 1 by omega]; rfl
    rw [h2]; simp
  · have h1 := sl_mid here (s0.length + 1) (s0.length + 3)
    refine str_eq_iff.mpr ?_
    rw [hf, ofStr_slsl]
    refine h1.trans ?_
    show List.take _ (List.drop _ (ls here)) = _
    rw [e, show s0 ++ 58 :: 47 :: 47 :: u = (s0 ++ [58]) ++ 47 :: 47 :: u by simp, List.drop_left' (by simp)]
    rw [show s0.length + 3 - (s0.length + 1) = 2 by omega]; rfl
/-- the third way: an empty path -/
theorem joins_third {x : PySem.Str} (hx : x.length ≤ 200) (h58 : ∃ a b, ls x = a ++ 58 :: b ∧ 58 ∉ a) (hlow : Low (ls x)) (hT : tail ∈ tails) : JoinsTo x tail (x ++ tail) := by
  obtain ⟨a, b, e, n0⟩ := h58
  have hf : Txt.find x (Str.ofString ":") = (a.length : Int) := by rw [col_is]; exact find_at e n0
  obtain ⟨_, t58, tl⟩ := tail_view hT
  have hf2 : Txt.find tail (Str.ofString ":") = -1 := by rw [col_is]; exact find_none t58
  have hz := tail_len hT
  have hv := sp_view (path := Str.ofString "") (by rw [lsE]; simp) hT
  rw [e_append] at hv
  refine ⟨by omega, by omega, Low.ok (by rw [ls_app]; exact hlow.app tl), .inr (.inr ⟨by omega, by omega, by rw [hv.1, ofStr_e_len]; rfl, by rw [hv.2]⟩)⟩
theorem J4 (hh : HereOk start root folders here) (hN : AllN folders) (hfl : folders.length ≤ 5) (hT : tail ∈ tails) : JoinsTo here tail (here ++ tail) := by
  obtain ⟨s0, last, h0, u, _, _, e, n0, _, _, lh, _⟩ := here_view hh hN
  exact joins_third (here_len hh hN hfl).1 ⟨s0, _, e, n0⟩ lh hT
theorem J8 (hT : tail ∈ tails) : JoinsTo (Str.ofString "mid:x") tail (Str.ofString "mid:x" ++ tail) := by
  have e : ls (Str.ofString "mid:x") = [109, 105, 100] ++ 58 :: [120] := by decide +kernel
  exact joins_third (by rw [← ls_len, e]; decide) ⟨_, _, e, by decide⟩ (by rw [e]; exact .ofB (by decide)) hT
/-- the second way: an absolute one -/
theorem joins_abs (x : PySem.Str) (hx : x.length ≤ 200) (hT : tail ∈ tails) (hR : RestOk rest) : JoinsTo x (Str.ofString "b:" ++ rest ++ tail) (Str.ofString "b:" ++ rest ++ tail) := by
  have eb : ls (Str.ofString "b:") = [98] ++ 58 :: [] := by decide +kernel
  have e : ls (Str.ofString "b:" ++ rest ++ tail) = [98] ++ 58 :: (ls rest ++ ls tail) := by rw [ls_app, ls_app, eb]; rfl
  have hz := tail_len hT
  have hz2 := rest_len hR
  have hf : Txt.find (Str.ofString "b:" ++ rest ++ tail) (Str.ofString ":") = 1 := by rw [col_is]; exact find_at e (by decide)
  have hl : (Str.ofString "b:" ++ rest ++ tail).length ≤ 100 := by
    have h2 : (Str.ofString "b:").length = 2 := by decide +kernel
    rw [Str.length_append, Str.length_append]; omega
  refine ⟨by omega, by omega, Low.ok ?_, .inr (.inl ⟨by omega, ?_, rfl⟩)⟩
  · rw [e]
    exact Low.app (.ofB (by decide)) (Low.app (a := [58]) (.ofB (by decide)) ((rest_view hR).1.low.app (tail_view hT).2.2))
  · rw [hf, sl_is]
    by_cases h : 47 ∈ ls rest ++ ls tail
    · obtain ⟨a, b, h2, h3⟩ := List.eq_append_cons_of_mem h
      right
      rw [find_at (a := [98, 58] ++ a) (b := b) (by rw [e, h2]; simp) (by simpa using h3)]
      simp; omega
    · left
      rw [find_none (by rw [e]; simpa using h)]; omega
theorem J5 (hh : HereOk start root folders here) (hN : AllN folders) (hfl : folders.length ≤ 5) (hT : tail ∈ tails) (hR : RestOk rest) : JoinsTo here (Str.ofString "b:" ++ rest ++ tail) (Str.ofString "b:" ++ rest ++ tail) :=
  joins_abs here (here_len hh hN hfl).1 hT hR
theorem J5n (hT : tail ∈ tails) (hR : RestOk rest) : JoinsTo (Str.ofString "none") (Str.ofString "b:" ++ rest ++ tail) (Str.ofString "b:" ++ rest ++ tail) :=
  joins_abs _ (by decide +kernel) hT hR
theorem join_nonempty {there : PySem.Str} (h : ((spP there).length : Int) ≠ 0) : joinF here there =
    if (Txt.slice there none (some 2) == Str.ofString "//") = true then Txt.slice (h1Of here) none (some (Txt.find here (Str.ofString ":") + 1)) ++ there
    else if (Txt.slice there none (some 1) == Str.ofString "/") = true then Txt.slice (h1Of here) none (some (bpOf here)) ++ there
    else Txt.slice (loopF (bpOf here) ((spP there).length + 1) (h1Of here) (spP there) (Txt.rfind (h1Of here) (Str.ofString "/"))).1 none (some ((loopF (bpOf here) ((spP there).length + 1) (h1Of here) (spP there) (Txt.rfind (h1Of here) (Str.ofString "/"))).2.2 + 1)) ++ (loopF (bpOf here) ((spP there).length + 1) (h1Of here) (spP there) (Txt.rfind (h1Of here) (Str.ofString "/"))).2.1 ++ spF there := by
  unfold joinF; rw [if_pos h]; rfl
theorem slice1 (x : PySem.Str) : ls (Txt.slice x none (some 1)) = (ls x).take 1 := sl_to x 1
theorem lsHash : ls (Str.ofString "//g/") = [47, 47, 103, 47] := by decide +kernel
theorem lsZ : ls (Str.ofString "z/") = [122, 47] := by decide +kernel
theorem len_pos {x : PySem.Str} (h : ls x ≠ []) : (x.length : Int) ≠ 0 := by
  rw [← ls_len]
  intro e
  exact h (List.length_eq_zero_iff.mp (by omega))
theorem J6 (hh : HereOk start root folders here) (hN : AllN folders) (hfl : folders.length ≤ 5) (hT : tail ∈ tails) (hR : RestOk rest) : JoinsTo here (Str.ofString "//g/" ++ rest ++ tail) (start ++ (Str.ofString "//g/" ++ rest ++ tail)) := by
  obtain ⟨s0, last, h0, u, es, er, e, n0, lst, _, lh, _, eh, eb⟩ := here_view hh hN
  obtain ⟨rg, rp⟩ := rest_view hR
  obtain ⟨_, t58, tl⟩ := tail_view hT
  have hz := tail_len hT
  have hz2 := rest_len hR
  have g4 : Good [47, 47, 103, 47] := .ofB (by decide)
  have pg : Good (ls (Str.ofString "//g/" ++ rest)) := by rw [ls_app, lsHash]; exact g4.app rg
  have hs := sp_view pg.h35 hT
  have hp : ((spP (Str.ofString "//g/" ++ rest ++ tail)).length : Int) ≠ 0 := by rw [hs.1]; exact len_pos (by rw [ls_app, lsHash]; simp)
  have h2 : (Str.ofString "//g/").length = 4 := by decide +kernel
  have et : ls (Str.ofString "//g/" ++ rest ++ tail) = 47 :: 47 :: 103 :: 47 :: (ls rest ++ ls tail) := by rw [ls_app, ls_app, lsHash]; rfl
  have hf : Txt.find here (Str.ofString ":") = (s0.length : Int) := by rw [col_is]; exact find_at e n0
  refine joins_first hh hN hfl ?_ ?_ ?_ ?_
  · rw [ls_app]; intro hc
    rcases List.mem_append.mp hc with hc | hc
    · exact pg.h58 hc
    · exact t58 hc
  · rw [Str.length_append, Str.length_append]; omega
  · rw [join_nonempty hp, if_pos (str_eq_iff.mpr (by rw [ofStr_slsl]; exact (slice2 _).trans (by rw [et]; rfl)))]
    refine congrArg (· ++ _) (ls_ext ?_)
    rw [hf]
    refine Eq.symm ((sl_to (h1Of here) (s0.length + 1)).trans ?_)
    show List.take _ (ls (h1Of here)) = _
    rw [eh, er, es, show s0 ++ 58 :: 47 :: 47 :: h0 ++ (PP folders ++ 47 :: last) = (s0 ++ [58]) ++ (47 :: 47 :: h0 ++ (PP folders ++ 47 :: last)) by simp, List.take_left' (by simp)]
  · rw [ls_app, ls_app]
    exact lst.app (pg.low.app tl)
theorem J7 (hh : HereOk start root folders here) (hN : AllN folders) (hfl : folders.length ≤ 5) (hT : tail ∈ tails) (hR : RestOk rest) : JoinsTo here (Str.ofString "/" ++ rest ++ tail) (root ++ (Str.ofString "/" ++ rest ++ tail)) := by
  obtain ⟨s0, last, h0, u, es, er, e, n0, lst, lr, lh, _, eh, eb⟩ := here_view hh hN
  obtain ⟨rg, rp⟩ := rest_view hR
  obtain ⟨tv, t58, tl⟩ := tail_view hT
  have hz := tail_len hT
  have hz2 := rest_len hR
  have pg : Good (ls (Str.ofString "/" ++ rest)) := by rw [ls_app, lsSl]; exact Good_sl.app rg
  have hs := sp_view pg.h35 hT
  have hp : ((spP (Str.ofString "/" ++ rest ++ tail)).length : Int) ≠ 0 := by rw [hs.1]; exact len_pos (by rw [ls_app, lsSl]; simp)
  have et : ls (Str.ofString "/" ++ rest ++ tail) = 47 :: (ls rest ++ ls tail) := by rw [ls_app, ls_app, lsSl]; rfl
  have hn2 : ((47 :: (ls rest ++ ls tail)).take 2) ≠ [47, 47] := by
    rcases rp with h | ⟨c, t, h, _, h47⟩ | ⟨t, h⟩
    · rcases tv with h2 | ⟨v, h2, _⟩
      · rw [h, h2]; simp
      · rw [h, h2]; simp
    · rw [h]; simpa using h47
    · rw [h]; simp
  refine joins_first hh hN hfl ?_ ?_ ?_ ?_
  · rw [ls_app]; intro hc
    rcases List.mem_append.mp hc with hc | hc
    · exact pg.h58 hc
    · exact t58 hc
  · rw [Str.length_append, Str.length_append, ofStr_sl_len]; omega
  · rw [join_nonempty hp, if_neg, if_pos (str_eq_iff.mpr (by rw [ofStr_sl]; exact (slice1 _).trans (by rw [et]; rfl)))]
    · refine congrArg (· ++ _) (ls_ext ?_)
      rw [eb]
      refine Eq.symm ((sl_to (h1Of here) (ls root).length).trans ?_)
      show List.take _ (ls (h1Of here)) = _
      rw [eh, List.take_left' rfl]
    · intro hc
      have := str_eq_iff.mp hc
      rw [ofStr_slsl] at this
      exact hn2 (by rw [← et, ← slice2]; exact this)
  · rw [ls_app, ls_app]
    exact lr.app (pg.low.app tl)
theorem Z8 (hT : tail ∈ tails) (hR : RestOk rest) : ¬ 0 ≤ Txt.find (Str.ofString "z/" ++ rest ++ tail) (Str.ofString ":") ∧ ((spP (Str.ofString "z/" ++ rest ++ tail)).length : Int) ≠ 0 ∧ (Str.ofString "z/" ++ rest ++ tail).length ≤ 100 := by
  obtain ⟨rg, rp⟩ := rest_view hR
  obtain ⟨tv, t58, tl⟩ := tail_view hT
  have hz := tail_len hT
  have hz2 := rest_len hR
  have gz : Good [122, 47] := .ofB (by decide)
  have pg : Good (ls (Str.ofString "z/" ++ rest)) := by rw [ls_app, lsZ]; exact gz.app rg
  have hs := sp_view pg.h35 hT
  have h2 : (Str.ofString "z/").length = 2 := by decide +kernel
  refine ⟨?_, ?_, ?_⟩
  · rw [col_is, find_none]
    · omega
    · rw [ls_app]; intro hc
      rcases List.mem_append.mp hc with hc | hc
      · exact pg.h58 hc
      · exact t58 hc
  · rw [hs.1]; exact len_pos (by rw [ls_app, lsZ]; simp)
  · rw [Str.length_append, Str.length_append]; omega
/-- what the loop leaves -/
theorem joins_loop {path p' : PySem.Str} {left : List PySem.Str} (hh : HereOk start root folders here) (hN : AllN folders) (hfl : folders.length ≤ 5) (hT : tail ∈ tails) (hg : Good (ls path)) (hl : path.length ≤ 100)
    (hne : ls path ≠ []) (h47 : (ls path).take 1 ≠ [47]) (hNl : AllN left) (hpl : Low (ls p'))
    (hloop : ∀ h lst, ls h = ls root ++ (PP folders ++ 47 :: lst) → ∃ h' lst', ls h' = ls root ++ (PP left ++ 47 :: lst') ∧
      loopF ((ls root).length : Int) (path.length + 1) h path (((ls root).length + (PP folders).length : Nat) : Int) = (h', p', (((ls root).length + (PP left).length : Nat) : Int))) :
    JoinsTo here (path ++ tail) (root ++ Str.ofString "/" ++ PySem.Str.join (Str.ofString "") (left.map gSuf) ++ p' ++ tail) := by
  obtain ⟨s0, last, h0, u, es, er, e, n0, lst, lr, lh, nl, eh, eb⟩ := here_view hh hN
  obtain ⟨tv, t58, tl⟩ := tail_view hT
  have hz := tail_len hT
  have hs := sp_view hg.h35 hT
  have hp : ((spP (path ++ tail)).length : Int) ≠ 0 := by rw [hs.1]; exact len_pos hne
  have hrf : Txt.rfind (h1Of here) (Str.ofString "/") = (((ls root).length + (PP folders).length : Nat) : Int) := by
    rw [sl_is, rfind_at (a := ls root ++ PP folders) (b := last) (by rw [eh]; simp) nl]; simp
  obtain ⟨h', lst', e1, e2⟩ := hloop _ _ eh
  have ek : (ls (path ++ tail)).take 1 = (ls path).take 1 := by
    rw [ls_app]
    cases hq : ls path with
    | nil => exact absurd hq hne
    | cons a b => rfl
  have hn1 : ¬ (Txt.slice (path ++ tail) none (some 1) == Str.ofString "/") = true := by
    intro hc
    have := str_eq_iff.mp hc
    rw [ofStr_sl] at this
    exact h47 (by rw [← ek, ← slice1]; exact this)
  have hn2 : ¬ (Txt.slice (path ++ tail) none (some 2) == Str.ofString "//") = true := by
    intro hc
    have := str_eq_iff.mp hc
    rw [ofStr_slsl] at this
    have h3 : (ls (path ++ tail)).take 2 = [47, 47] := (slice2 _).symm.trans this
    refine h47 (ek ▸ ?_)
    cases hq : ls (path ++ tail) with
    | nil => rw [hq] at h3; simp at h3
    | cons a b => rw [hq] at h3; simp at h3; rw [h3.1]; rfl
  refine joins_first hh hN hfl ?_ ?_ ?_ ?_
  · rw [ls_app]; intro hc
    rcases List.mem_append.mp hc with hc | hc
    · exact hg.h58 hc
    · exact t58 hc
  · rw [Str.length_append]; omega
  · rw [join_nonempty hp, if_neg hn2, if_neg hn1, hs.1, hs.2, eb, hrf, e2]
    refine congrArg (· ++ tail) (congrArg (· ++ p') (ls_ext ?_))
    refine Eq.symm ((sl_to h' ((ls root).length + (PP left).length + 1)).trans ?_)
    show List.take _ (ls h') = _
    rw [ls_app, ls_app, ls_suf, lsSl, e1, show ls root ++ (PP left ++ 47 :: lst') = (ls root ++ (PP left ++ [47])) ++ lst' by simp, List.take_left' (by simp; omega), PP_SS]
    simp
  · rw [ls_app, ls_app, ls_app, ls_app, ls_suf, lsSl]
    exact ((((lr.app (.ofB (by decide))).app (SS_low hNl)).app hpl).app tl)
end
end Mine

/-! part F5 -/
namespace Mine
open PySem PySem.W PyProof.Rows PySem.Builtin PySem.Builtin.Str
theorem AllN.h47 {fs : List PySem.Str} (h : AllN fs) : ∀ f ∈ fs, 47 ∉ ls f := fun f hf => name_47 (h f hf)
theorem AllN_ups {l : List Bool} {fs : List PySem.Str} (h : AllN fs) : AllN (ups l fs) := fun x hx => h x ((ups_sub l fs).1 x hx)
theorem steps_good : ∀ l, Good (ls (stepsTxt l))
  | [] => by rw [ls_steps_e]; exact fun c hc => nomatch hc
  | true :: r => by rw [ls_steps_t]; exact Good.app (a := [46, 46, 47]) (.ofB (by decide)) (steps_good r)
  | false :: r => by rw [ls_steps_f]; exact Good.app (a := [46, 47]) (.ofB (by decide)) (steps_good r)
theorem steps_head (l : List Bool) (e : List Nat) (h : e.take 1 ≠ [47]) : (ls (stepsTxt l) ++ e).take 1 ≠ [47] := by
  match l with
  | [] => rw [ls_steps_e]; exact h
  | true :: r => rw [ls_steps_t]; simp
  | false :: r => rw [ls_steps_f]; simp
theorem Plain.cut {e : List Nat} (h : Plain e) : e.take 2 ≠ [46, 47] ∧ e ≠ [46] ∧ e.take 3 ≠ [46, 46, 47] ∧ e ≠ [46, 46] ∧ e.take 1 ≠ [47] := by
  rcases h with rfl | ⟨c, t, rfl, h1, h2⟩ | ⟨t, rfl⟩
  · simp
  · refine ⟨?_, ?_, ?_, ?_, ?_⟩ <;> (intro hc; simp at hc; omega)
  · simp
/-- what is left before the end: the cut path is the end -/
theorem cut_end {r : List Bool} {p : PySem.Str} {e : List Nat} (hr : r = [] ∨ r = [false]) (hp : ls p = ls (stepsTxt r) ++ e) (he : e.take 2 ≠ [46, 47]) : ls (cutF p) = e := by
  rcases hr with rfl | rfl
  · rw [ls_steps_e] at hp
    have hp : ls p = e := hp
    rw [cutF_same (by rw [hp]; exact he), hp]
  · rw [ls_steps_f, ls_steps_e] at hp
    exact cutF_here hp
section
variable {rt lst : List Nat} {fs : List PySem.Str} {l : List Bool} {h p : PySem.Str}
theorem run_plain {rest : PySem.Str} (h2 : NoTwo l) (hfs : AllN fs) (hh : ls h = rt ++ (PP fs ++ 47 :: lst)) (he : Plain (ls rest)) (hp : ls p = ls (stepsTxt l) ++ ls rest) :
    ∃ h' lst', ls h' = rt ++ (PP (ups l fs) ++ 47 :: lst') ∧ loopF (rt.length : Int) (p.length + 1) h p ((rt.length + (PP fs).length : Nat) : Int) = (h', rest, ((rt.length + (PP (ups l fs)).length : Nat) : Int)) := by
  obtain ⟨r, hr, h', p', lst', n', a1, a2, a3, a4⟩ := loop_steps l.length l (Nat.le_refl _) h2 fs lst h p (p.length + 1) hfs.h47 hh hp (Nat.le_refl _)
  obtain ⟨c1, c2, c3, c4, _⟩ := he.cut
  have hc := cut_end hr a2 c1
  obtain ⟨n, rfl⟩ : ∃ m, n' = m + 1 := ⟨n' - 1, by omega⟩
  refine ⟨h', lst', a1, a4.trans ?_⟩
  rw [loop_end (p := p') (by rw [hc]; exact c2) (by rw [hc]; exact c3) (by rw [hc]; exact c4), show cutF p' = rest from ls_ext hc]
theorem run_dot (h2 : NoTwo l) (hfs : AllN fs) (hh : ls h = rt ++ (PP fs ++ 47 :: lst)) (hp : ls p = ls (stepsTxt l) ++ [46]) :
    ∃ h' lst', ls h' = rt ++ (PP (ups l fs) ++ 47 :: lst') ∧ loopF (rt.length : Int) (p.length + 1) h p ((rt.length + (PP fs).length : Nat) : Int) = (h', Str.ofString "", ((rt.length + (PP (ups l fs)).length : Nat) : Int)) := by
  obtain ⟨r, hr, h', p', lst', n', a1, a2, a3, a4⟩ := loop_steps l.length l (Nat.le_refl _) h2 fs lst h p (p.length + 1) hfs.h47 hh hp (Nat.le_refl _)
  have hc := cut_end hr a2 (by simp)
  have hl : 1 ≤ p'.length := by rw [← ls_len, a2]; simp
  obtain ⟨n, rfl⟩ : ∃ m, n' = m + 2 := ⟨n' - 2, by omega⟩
  rw [loop_dot hc] at a4
  exact ⟨h', lst', a1, a4⟩
theorem run_dd (h2 : NoTwo l) (hfs : AllN fs) (hh : ls h = rt ++ (PP fs ++ 47 :: lst)) (hp : ls p = ls (stepsTxt l) ++ [46, 46]) :
    ∃ h' lst', ls h' = rt ++ (PP (ups l fs).dropLast ++ 47 :: lst') ∧ loopF (rt.length : Int) (p.length + 1) h p ((rt.length + (PP fs).length : Nat) : Int) = (h', Str.ofString "", ((rt.length + (PP (ups l fs).dropLast).length : Nat) : Int)) := by
  obtain ⟨r, hr, h', p', lst', n', a1, a2, a3, a4⟩ := loop_steps l.length l (Nat.le_refl _) h2 fs lst h p (p.length + 1) hfs.h47 hh hp (Nat.le_refl _)
  have hc := cut_end hr a2 (by simp)
  have hl : 2 ≤ p'.length := by rw [← ls_len, a2]; simp
  obtain ⟨n, rfl⟩ : ∃ m, n' = m + 2 := ⟨n' - 2, by omega⟩
  obtain ⟨h3, q, l3, e1, e2, e3⟩ := loop_up (n := n + 1) a1 (AllN_ups hfs).h47 (.inr hc)
  rw [hc] at e1
  have hq : q = Str.ofString "" := ls_ext (by rw [e1, lsE]; rfl)
  have e : cutF (Str.ofString "") = Str.ofString "" := cutF_same (by rw [lsE]; simp)
  refine ⟨h3, l3, e2, (a4.trans e3).trans ?_⟩
  rw [hq, loop_end (p := Str.ofString "") (by rw [e, lsE]; simp) (by rw [e, lsE]; simp) (by rw [e, lsE]; simp), e]
end
section
variable {start root here tail rest th : PySem.Str} {folders left : List PySem.Str} {i : Nat} {still : Bool}
theorem e_of {x : PySem.Str} (h : (x == Str.ofString "") = true) : x = Str.ofString "" := eq_of_beq h
theorem ne_of {x : PySem.Str} (h : (x == Str.ofString "") = false) : ls x ≠ [] := fun e => by
  have : x = Str.ofString "" := ls_ext (by rw [e, lsE])
  rw [this] at h; simp at h
theorem J0a (hh : HereOk start root folders here) (hN : AllN folders) (hfl : folders.length ≤ 5) (hT : tail ∈ tails) (hR : RestOk rest) (hO : StepsOk folders i th left still) (hi : i ≤ 5) (hr : (rest == Str.ofString "") = false) :
    JoinsTo here (th ++ rest ++ tail) (root ++ Str.ofString "/" ++ PySem.Str.join (Str.ofString "") (left.map gSuf) ++ rest ++ tail) := by
  have hl := hO.len
  obtain ⟨l, rfl, h2, rfl, rfl, _⟩ := hO
  obtain ⟨rg, rp⟩ := rest_view hR
  have hz2 := rest_len hR
  refine joins_loop hh hN hfl hT ?_ ?_ ?_ ?_ (AllN_ups hN) rg.low ?_
  · rw [ls_app]; exact (steps_good l).app rg
  · rw [Str.length_append]; omega
  · rw [ls_app]; intro e; exact ne_of hr (List.append_eq_nil_iff.mp e).2
  · rw [ls_app]; exact steps_head _ _ rp.cut.2.2.2.2
  · intro h lst e
    exact run_plain h2 hN e rp (ls_app _ _)
theorem J0b {en : PySem.Str} (hh : HereOk start root folders here) (hN : AllN folders) (hfl : folders.length ≤ 5) (hT : tail ∈ tails) (hO : StepsOk folders i th left still) (hi : i ≤ 5) (hr : (rest == Str.ofString "") = true) (he : (en == Str.ofString "..") = true) :
    JoinsTo here (th ++ en ++ rest ++ tail) (root ++ Str.ofString "/" ++ PySem.Str.join (Str.ofString "") (left.dropLast.map gSuf) ++ rest ++ tail) := by
  have hl := hO.len
  obtain ⟨l, rfl, h2, rfl, rfl, _⟩ := hO
  have er := e_of hr
  subst er
  have ee : en = Str.ofString ".." := eq_of_beq he
  subst ee
  have e2 : ls (Str.ofString "..") = [46, 46] := ofStr_dd
  have e3 : (Str.ofString "..").length = 2 := by decide +kernel
  have ep : ls (stepsTxt l ++ Str.ofString ".." ++ Str.ofString "") = ls (stepsTxt l) ++ [46, 46] := by rw [ls_app, ls_app, e2, lsE, List.append_nil]
  refine joins_loop hh hN hfl hT ?_ ?_ ?_ ?_ (AllN_dl (AllN_ups hN)) (by rw [lsE]; exact fun c hc => nomatch hc) ?_
  · rw [ep]; exact (steps_good l).app (.ofB (by decide))
  · rw [Str.length_append, Str.length_append, ofStr_e_len]; omega
  · rw [ep]; simp
  · rw [ep]; exact steps_head _ _ (by simp)
  · intro h lst e
    exact run_dd h2 hN e ep
theorem J0c {en : PySem.Str} (hh : HereOk start root folders here) (hN : AllN folders) (hfl : folders.length ≤ 5) (hT : tail ∈ tails) (hO : StepsOk folders i th left still) (hi : i ≤ 5) (hr : (rest == Str.ofString "") = true) (hen : en ∈ ends) (he : (en == Str.ofString "..") = false) (hne : (th ++ en ++ rest == Str.ofString "") = false) :
    JoinsTo here (th ++ en ++ rest ++ tail) (root ++ Str.ofString "/" ++ PySem.Str.join (Str.ofString "") (left.map gSuf) ++ rest ++ tail) := by
  have hl := hO.len
  obtain ⟨l, rfl, h2, rfl, rfl, _⟩ := hO
  have er := e_of hr
  subst er
  have hne := ne_of hne
  have low : Low (ls (Str.ofString "")) := by rw [lsE]; exact fun c hc => nomatch hc
  rcases List.mem_cons.mp hen with rfl | hen
  · have ep : ls (stepsTxt l ++ Str.ofString "" ++ Str.ofString "") = ls (stepsTxt l) ++ ls (Str.ofString "") := by rw [ls_app, ls_app, lsE, List.append_nil]
    refine joins_loop hh hN hfl hT ?_ ?_ hne ?_ (AllN_ups hN) low ?_
    · rw [ep, lsE]; exact (steps_good l).app (.ofB (by decide))
    · rw [Str.length_append, Str.length_append, ofStr_e_len]; omega
    · rw [ep, lsE]; exact steps_head _ _ (by simp)
    · intro h lst e
      exact run_plain h2 hN e (.inl lsE) ep
  rcases List.mem_cons.mp hen with rfl | hen
  · have e2 : ls (Str.ofString ".") = [46] := ofStr_dot
    have e3 : (Str.ofString ".").length = 1 := by decide +kernel
    have ep : ls (stepsTxt l ++ Str.ofString "." ++ Str.ofString "") = ls (stepsTxt l) ++ [46] := by rw [ls_app, ls_app, e2, lsE, List.append_nil]
    refine joins_loop hh hN hfl hT ?_ ?_ hne ?_ (AllN_ups hN) low ?_
    · rw [ep]; exact (steps_good l).app (.ofB (by decide))
    · rw [Str.length_append, Str.length_append, ofStr_e_len]; omega
    · rw [ep]; exact steps_head _ _ (by simp)
    · intro h lst e
      exact run_dot h2 hN e ep
  · rw [List.mem_singleton.mp hen] at he; simp at he
theorem J0d {x : PySem.Str} (hh : HereOk start root folders here) (hN : AllN folders) (hfl : folders.length ≤ 5) (hT : tail ∈ tails) (hne : (x == Str.ofString "") = true) :
    JoinsTo here (x ++ tail) (here ++ tail) := by
  rw [e_of hne, e_append]; exact J4 hh hN hfl hT
end
end Mine

/-! part KK -/
namespace Mine
open PySem PySem.W PyProof.Rows
theorem reset_KK : True := by
  w_top off
  k_with_none
  trivial
local macro_rules | `(tactic| walk_at "call ref") => `(tactic| (k_here; (with_reducible show wpAny _ _ (call (Value.ref 44) _) _ _ _); k_dflt (refine' told_ok ?k1 ?k2 ?k3 ?k4 ?k5 ?k6 ?k7 ?k8 ?k9 ?_; (case k7 => first | with_reducible exact J4 (by assumption) (by assumption) (by assumption) (by assumption) | with_reducible exact J5 (by assumption) (by assumption) (by assumption) (by assumption) (by assumption) | with_reducible exact J5n (by assumption) (by assumption) | with_reducible exact J6 (by assumption) (by assumption) (by assumption) (by assumption) (by assumption) | with_reducible exact J7 (by assumption) (by assumption) (by assumption) (by assumption) (by assumption)); (case k1 => k_asm); (case k2 => k_asm); (case k3 => k_asm); (case k4 => k_asm); (case k5 => k_asm); (case k6 => first | exact rfl | assumption); (case k8 => ktr_room); (case k9 => ktr_units)); intro D' t1' t2' c' h' tk' ok' F' N' l1; dsimp only [tup2] at N'))
local macro_rules | `(tactic| walk_at "compareOp Eq ref ref") => `(tactic| (k_here; (with_reducible show wpAny _ _ (compareOp CmpOp.Eq (Value.ref _) (Value.ref _)) _ _ _); k_dflt (refine' eq_told ?N ?m ?m2 ?a ?u ?_; (case N => k_asm); (case m => k_mem); (case m2 => k_mem); (case a => assumption); (case u => units_room); k_whole)))
set_option maxRecDepth 100000 in
set_option maxHeartbeats 2000000 in
theorem k4 : KClaim (fun k => k = 4) := by
  unfold KClaim
  dsimp only [lawBody, lawScope, bodyOf, scopeOf, lawDef, PySem.Challenge.pw_ez0312_01, List.headD, List.drop]
  intro w mean mg mb u fa cd h₀ L s R co lf ls fvs svs folders ns cf kind start root here tail rest t1 t2 t3 t4 t5 t6 K0 X
  revert X; k_fill; intro X
  intro T hl hi hlen F N hco hlt hf hN hfl hh hT hrest hk hR
  k_fold
  have hz1 := (here_len hh hN hfl).1
  have hz2 := (here_len hh hN hfl).2.1
  have hz3 := (here_len hh hN hfl).2.2
  have hz4 := tail_len hT
  have hz5 := rest_len hrest
  replace hk : kind = 4 := hk
  subst hk
  k_steps
  all_goals (exact hR _ _ _ _ (by assumption) (by assumption))
set_option maxRecDepth 100000 in
set_option maxHeartbeats 2000000 in
theorem k5 : KClaim (fun k => k = 5) := by
  unfold KClaim
  dsimp only [lawBody, lawScope, bodyOf, scopeOf, lawDef, PySem.Challenge.pw_ez0312_01, List.headD, List.drop]
  intro w mean mg mb u fa cd h₀ L s R co lf ls fvs svs folders ns cf kind start root here tail rest t1 t2 t3 t4 t5 t6 K0 X
  revert X; k_fill; intro X
  intro T hl hi hlen F N hco hlt hf hN hfl hh hT hrest hk hR
  k_fold
  have hz1 := (here_len hh hN hfl).1
  have hz2 := (here_len hh hN hfl).2.1
  have hz3 := (here_len hh hN hfl).2.2
  have hz4 := tail_len hT
  have hz5 := rest_len hrest
  replace hk : kind = 5 := hk
  subst hk
  k_steps
  all_goals (exact hR _ _ _ _ (by assumption) (by assumption))
set_option maxRecDepth 100000 in
set_option maxHeartbeats 2000000 in
theorem k6 : KClaim (fun k => k = 6) := by
  unfold KClaim
  dsimp only [lawBody, lawScope, bodyOf, scopeOf, lawDef, PySem.Challenge.pw_ez0312_01, List.headD, List.drop]
  intro w mean mg mb u fa cd h₀ L s R co lf ls fvs svs folders ns cf kind start root here tail rest t1 t2 t3 t4 t5 t6 K0 X
  revert X; k_fill; intro X
  intro T hl hi hlen F N hco hlt hf hN hfl hh hT hrest hk hR
  k_fold
  have hz1 := (here_len hh hN hfl).1
  have hz2 := (here_len hh hN hfl).2.1
  have hz3 := (here_len hh hN hfl).2.2
  have hz4 := tail_len hT
  have hz5 := rest_len hrest
  replace hk : kind = 6 := hk
  subst hk
  k_steps
  all_goals (exact hR _ _ _ _ (by assumption) (by assumption))
set_option maxRecDepth 100000 in
set_option maxHeartbeats 2000000 in
theorem k7 : KClaim (fun k => k = 7) := by
  unfold KClaim
  dsimp only [lawBody, lawScope, bodyOf, scopeOf, lawDef, PySem.Challenge.pw_ez0312_01, List.headD, List.drop]
  intro w mean mg mb u fa cd h₀ L s R co lf ls fvs svs folders ns cf kind start root here tail rest t1 t2 t3 t4 t5 t6 K0 X
  revert X; k_fill; intro X
  intro T hl hi hlen F N hco hlt hf hN hfl hh hT hrest hk hR
  k_fold
  have hz1 := (here_len hh hN hfl).1
  have hz2 := (here_len hh hN hfl).2.1
  have hz3 := (here_len hh hN hfl).2.2
  have hz4 := tail_len hT
  have hz5 := rest_len hrest
  replace hk : kind = 7 := hk
  subst hk
  k_steps
  all_goals (exact hR _ _ _ _ (by assumption) (by assumption))
end Mine

/-! part K8 -/
namespace Mine
open PySem PySem.W PyProof.Rows
theorem reset_K8 : True := by
  w_top off
  k_with_none
  trivial
local macro_rules | `(tactic| walk_at "binaryOp Mod str str") => `(tactic| (k_here; (with_reducible show wpAny _ _ (binaryOp Operator.Mod (Value.str _ _) (Value.str (Str.ofString "none") _)) _ _ _); (have hnn9 : (Str.ofString "none").length ≤ 100 := by decide +kernel); (generalize Str.ofString "none" = nn9 at hnn9 ⊢); (refine' KPc.mod_str ?kpcF ?kpcl ?kpcm ?_; (case kpcF => kpc_eq); (case kpcl => kpc_size); (case kpcm => k_dflt kpc_run_s)); intro _ _))
local macro_rules | `(tactic| walk_at "call ref") => `(tactic| (k_here; (with_reducible show wpAny _ _ (call (Value.ref 44) _) _ _ _); k_dflt (refine wpAny_call ?_; (refine' enterX ?k1 ?k2 ?k3 ?k4 ?k5 ?kA ?kF ?kE ?k6 ?k7 ?k8 ?k9 ?kB ?_ ?c2 ?c3 ?c4 ?c5; (case kA => exact rfl); (case kF => exact rfl); (case kE => exact rfl); (case k2 => k_asm); (case k1 => k_asm); (case k3 => k_asm); (case k4 => k_asm); (case k5 => k_asm); (case k6 => k_is); (case k7 => k_is); (case k8 => k_room); (case k9 => exact BindsTo.of_eq rfl); (case kB => exact locs rfl); (case c2 => exact rfl); (case c3 => exact rfl); (case c4 => exact rfl); (case c5 => decide); k_whole; intro g' L' h' FG' F' N' B' X' T' D'; (try dsimp only); (try k_lift B'); (try k_fold)))))
local macro_rules | `(tactic| walk_at "call ref") => `(tactic| (k_here; (with_reducible show wpAny _ _ (call (Value.ref 44) _) _ _ _); k_dflt (refine' told_ok ?k1 ?k2 ?k3 ?k4 ?k5 ?k6 ?k7 ?k8 ?k9 ?_; (case k7 => first | with_reducible exact J8 (by assumption)); (case k1 => k_asm); (case k2 => k_asm); (case k3 => k_asm); (case k4 => k_asm); (case k5 => k_asm); (case k6 => first | exact rfl | assumption); (case k8 => ktr_room); (case k9 => ktr_units)); intro D' t1' t2' c' h' tk' ok' F' N' l1; dsimp only [tup2] at N'))
local macro_rules | `(tactic| walk_at "compareOp Eq ref ref") => `(tactic| (k_here; (with_reducible show wpAny _ _ (compareOp CmpOp.Eq (Value.ref _) (Value.ref _)) _ _ _); k_dflt (refine' eq_due ?zN ?zd1 ?zd2 ?zd3 ?zl ?ze1 ?ze2 ?ze3 ?zm ?za ?zu ?_; (case zN => k_asm); (case zl => k_mem); (case zm => k_mem); (case zd1 => k_mem); (case zd2 => k_mem); (case zd3 => k_mem); (case ze1 => k_mem); (case ze2 => k_mem); (case ze3 => k_mem); (case za => assumption); (case zu => units_room); k_whole)))
local macro_rules | `(tactic| walk_at "call ref") => `(tactic| (k_here; (with_reducible show wpAny _ _ (call (Value.ref 22) _) _ _ _); k_dflt (refine' split_call ?k1 ?k2 ?k3 ?k4 ?k5 ?k6 ?k7 ?k8 ?k9 ?_; (case k1 => k_asm); (case k2 => k_asm); (case k3 => k_asm); (case k4 => k_asm); (case k5 => k_asm); (case k6 => first | exact rfl | assumption); (case k7 => omega); (case k8 => ktr_room); (case k9 => ktr_units)); intro D' t1' t2' c' h' tk' q1' q2' F' N' l1; dsimp only [tup2] at N'))
set_option maxRecDepth 100000 in
set_option maxHeartbeats 2000000 in
theorem k8 : KClaim (fun k => k = 8) := by
  unfold KClaim
  dsimp only [lawBody, lawScope, bodyOf, scopeOf, lawDef, PySem.Challenge.pw_ez0312_01, List.headD, List.drop]
  intro w mean mg mb u fa cd h₀ L s R co lf ls fvs svs folders ns cf kind start root here tail rest t1 t2 t3 t4 t5 t6 K0 X
  revert X; k_fill; intro X
  intro T hl hi hlen F N hco hlt hf hN hfl hh hT hrest hk hR
  k_fold
  have hz1 := (here_len hh hN hfl).1
  have hz2 := (here_len hh hN hfl).2.1
  have hz3 := (here_len hh hN hfl).2.2
  have hz4 := tail_len hT
  have hz5 := rest_len hrest
  replace hk : kind = 8 := hk
  subst hk
  have hq1 := (Z8 hT hrest).1
  have hq2 := (Z8 hT hrest).2.1
  have hq3 := (Z8 hT hrest).2.2
  k_steps
  all_goals first | (exact hR _ _ _ _ (by assumption) (by assumption)) | (exfalso; omega)
end Mine

/-! part K0 -/
namespace Mine
open PySem PySem.W PyProof.Rows
theorem reset_K0 : True := by
  w_top off
  k_with_none
  trivial
local macro_rules | `(tactic| walk_at "call ref") => `(tactic| (k_here; (with_reducible show wpAny _ _ (call (Value.ref 37) _) _ _ _); k_dflt (refine' at_call ?k1 ?k2 ?k3 ?k4 ?k5 ?k6 ?k7 ?k8 ?k9 ?k10 ?k11 ?k12 ?k13 ?_; (case k1 => k_asm); (case k2 => k_asm); (case k3 => k_asm); (case k4 => k_asm); (case k5 => k_asm); (case k6 => first | exact rfl | assumption); (case k7 => k_asm); (case k8 => l_ints); (case k9 => l_fit); (case k10 => omega); (case k11 => omega); (case k12 => ktr_room); (case k13 => ktr_units)); intro t' h' tk' q1' q2' F' N'))
local macro_rules | `(tactic| walk_at "call ref") => `(tactic| (k_here; (with_reducible show wpAny _ _ (call (Value.ref 44) _) _ _ _); k_dflt (refine' told_ok ?k1 ?k2 ?k3 ?k4 ?k5 ?k6 ?k7 ?k8 ?k9 ?_; (case k7 => first | with_reducible exact J0d (by assumption) (by assumption) (by assumption) (by assumption) (by assumption) | with_reducible exact J0b (by assumption) (by assumption) (by assumption) (by assumption) (by assumption) (by assumption) (by assumption) (by assumption) | with_reducible exact J0c (by assumption) (by assumption) (by assumption) (by assumption) (by assumption) (by assumption) (by assumption) (by assumption) (by assumption) (by assumption) | with_reducible exact J0a (by assumption) (by assumption) (by assumption) (by assumption) (by assumption) (by assumption) (by assumption) (by assumption)); (case k1 => k_asm); (case k2 => k_asm); (case k3 => k_asm); (case k4 => k_asm); (case k5 => k_asm); (case k6 => first | exact rfl | assumption); (case k8 => ktr_room); (case k9 => ktr_units)); intro D' t1' t2' c' h' tk' ok' F' N' l1; dsimp only [tup2] at N'))
local macro_rules | `(tactic| walk_at "compareOp Eq ref ref") => `(tactic| (k_here; (with_reducible show wpAny _ _ (compareOp CmpOp.Eq (Value.ref _) (Value.ref _)) _ _ _); k_dflt (refine' eq_told ?N ?m ?m2 ?a ?u ?_; (case N => k_asm); (case m => k_mem); (case m2 => k_mem); (case a => assumption); (case u => units_room); k_whole)))
local macro_rules | `(tactic| walk_at "call type:range") => `(tactic| ((rename Fr _ _ _ _ => F'); (rename News _ _ _ _ => N'); (with_unfolding_all refine range1_rows F' N' ?_; intro _ _ _ _ _ _ _ _ _)))
local macro_rules | `(tactic| walk_at "subscriptTail Name Slice ref ref") => `(tactic| (k_here; (with_reducible show wpAny _ _ (subscriptTail _ (PySem.Expr.Slice _ _ none _) (Value.ref _) (Value.ref _)) _ _ _); k_dflt (refine' left_slice ?zF ?zN ?zm ?zi ?zx ?_ ?zs ?zt; (case zF => k_asm); (case zN => k_asm); (case zm => first | k_mem | simp); (case zi => assumption); (case zx => omega); (case zs => with_unfolding_all rfl); (case zt => kmk_pure)); intro D' ws' h' F' N' l1 hI'; (have hLw9 := StrsAre.length hI'); (simp only [List.length_dropLast] at hLw9)))
local macro_rules | `(tactic| walk_at "eval ListComp") => `(tactic| (k_here; k_dflt (refine LCg.ListComp_U (F₀ := by k_asm) (by with_unfolding_all rfl) (by decide) (by rfl) (by decide) (by rfl) ?_)))
local macro_rules | `(tactic| walk_at "CompSrc") => `(tactic| (k_here; k_dflt (first
  | ((with_reducible show LCg.CompSrc _ _ _ _ _ _ _ (PySem.Expr.BinOp (PySem.Expr.Constant _ _ _) _ _ _) _ _ _ _ _ _); (refine LCg.CompSrc.ledger (by rfl) (by k_asm) (by k_asm) (by k_mem) (by (simp only [List.size_toArray, PySem.sizeLine_eq]; (try simp only [List.length_dropLast]); omega)) ?_); intro g'; (refine' ct_texts gPre (by assumption) (fun k' t' I' oI' C' oC' D' m' ys' h' tk' E' hk' hC' hx' F' N' off' ne' => have kn' := first_len (by first | assumption | exact AllN_dl (by assumption)) hk'; ?_) ?_); (all_goals (try (simp only [LCg.Off3, and_true] at off'))))
  | ((with_reducible show LCg.CompSrc _ _ _ _ _ _ _ (PySem.Expr.BinOp (PySem.Expr.Name _ _) _ _ _) _ _ _ _ _ _); (refine LCg.CompSrc.ledger (by rfl) (by k_asm) (by k_asm) (by k_mem) (by (simp only [List.size_toArray, PySem.sizeLine_eq]; (try simp only [List.length_dropLast]); omega)) ?_); intro g'; (refine' ct_texts gSuf (by assumption) (fun k' t' I' oI' C' oC' D' m' ys' h' tk' E' hk' hC' hx' F' N' off' ne' => have kn' := first_len (by first | assumption | exact AllN_dl (by assumption)) hk'; ?_) ?_); (all_goals (try (simp only [LCg.Off3, and_true] at off')))))))
local macro_rules | `(tactic| walk_at "call builtin:str.join") => `(tactic| (k_here; (with_reducible show wpAny _ _ (call (Value.builtin "str.join") [Value.str _ _, Value.ref _]) _ _ _); k_dflt (refine' join_small ?N ?m ?i ?s ?l ?n ?_; (case N => k_asm); (case m => k_mem); (case i => assumption); (case s => exact Nat.le_of_ble_eq_true rfl); (case l => first | exact AllN.pre (by assumption) | exact AllN.suf (by assumption) | exact AllN.suf (AllN_dl (by assumption)) | exact AllN.le (by assumption)); (case n => (simp only [List.length_map]; (try simp only [List.length_dropLast]); omega))); intro t' k' hJ'))
local macro_rules | `(tactic| walk_at "KCtEl") => `(tactic| (refine kct_el rfl (by with_unfolding_all rfl) (by with_unfolding_all rfl)))
set_option maxRecDepth 100000 in
set_option maxHeartbeats 4000000 in
theorem k0 : KClaim (fun k => k < 4) := by
  unfold KClaim
  dsimp only [lawBody, lawScope, bodyOf, scopeOf, lawDef, PySem.Challenge.pw_ez0312_01, List.headD, List.drop]
  intro w mean mg mb u fa cd h₀ L s R co lf ls fvs svs folders ns cf kind start root here tail rest t1 t2 t3 t4 t5 t6 K0 X
  revert X; k_fill; intro X
  intro T hl hi hlen F N hco hlt hf hN hfl hh hT hrest hk hR
  k_fold
  have hz1 := (here_len hh hN hfl).1
  have hz2 := (here_len hh hN hfl).2.1
  have hz3 := (here_len hh hN hfl).2.2
  have hz4 := tail_len hT
  have hz5 := rest_len hrest
  replace hk : kind < 4 := hk
  repeat' (first | ((fail_if_success (with_reducible show wpAny _ _ (pyIter _) _ _ _)); first | (k_unfold; (try dsimp only)) | (k_end; wrow_close) | walk1 | (dsimp only; walk1) | (leave1; walk_say "STEP leave1"; try dsimp only) | fail "no step"))
  (rename IsRange _ _ _ _ _ _ _ _ => rgX)
  (rename Fr _ _ _ _ => lF)
  (rename News _ _ _ _ => lN)
  replace lN := cb_drop lN (fun p hp => List.Mem.tail _ hp)
  refine loop_rangeJ (n := (atF ns 17 6 - 0).toNat) (JL _ _ folders) rfl rgX (small_one (by omega) (by omega) (by omega) (by omega)) (rangeSize_nat _ _) lF lN ⟨_, _, _, _, _, _, _, rfl, rfl, rfl, rfl, fun z _ _ _ _ => rfl, hf, StepsOk_nil folders⟩ ?turn ?done
  case turn =>
    clear lF lN rgX
    intro i k t m₁ nx h tk own hki hin hoff hJ F₁ N₁
    obtain ⟨th, tt, la, lvs, lc, left, still, rfl, e1, e2, e3, e4, hS, hO⟩ := hJ
    replace F₁ := frJ F₁ e1 e2 e3 e4
    have hle := hO.len
    have hlf := (hO.left hN).2
    have hoff' := hoff
    simp only [List.map_cons, List.map_nil] at hoff'
    clear e1 e2 e3 e4
    show wpAny _ _ _ _ _ _
    k_fold
    repeat' (first | ((fail_if_success (with_reducible show PostJ _ _ _ _ _ _ _ _)); first | (k_unfold; (try dsimp only)) | (k_end; wrow_close) | walk1 | (dsimp only; walk1) | (leave1; walk_say "STEP leave1"; try dsimp only) | fail "no step"))
    all_goals (k_unfold; dsimp only [PostJ]; (rename Fr _ _ _ _ => eF); (rename News _ _ _ _ => eN))
    · refine endJ_intro eF eN (nx := [(_, listOf (List.toArray _) 0), (lf, listOf fvs.toArray cf), (L + 1, co)]) ?hn ?ho ?off ⟨th ++ Str.ofString "../", _, _, _, _, left.dropLast, false, rfl, (if_neg n_tl).trans (if_pos rfl), if_pos rfl, (if_neg n_sl).trans ((if_neg n_st).trans (if_pos rfl)), (fun z h1 h2 h3 h4 => by simp only [if_neg h1, if_neg h2, if_neg h3, if_neg h4]), by assumption, StepsOk_up hO⟩
      case hn => simp
      case ho => intro p hp; simp [hp]
      case off => exact off_new (off_tail hoff') (by assumption) (fun p hp => by simp [hp])
    · refine endJ_intro eF eN (nx := [(la, listOf lvs.toArray lc), (lf, listOf fvs.toArray cf), (L + 1, co)]) ?hn ?ho ?off ⟨th ++ Str.ofString "./", _, _, _, _, left, true, rfl, if_pos rfl, (if_neg n_lt).trans ((if_neg n_ls).trans ((if_neg n_lk).trans ((if_neg n_lt).trans (if_pos rfl)))), (if_neg n_st).trans (if_pos rfl), (fun z h1 h2 h3 h4 => by simp only [if_neg h1, if_neg h2, if_neg h3, if_neg h4]), hS, StepsOk_here (Eq.subst (motive := fun b => StepsOk folders i th left b) (by assumption : still = false) hO)⟩
      case hn => simp
      case ho => intro p hp; simp [hp]
      case off => exact hoff'
    · refine endJ_intro eF eN (nx := [(_, listOf (List.toArray _) 0), (lf, listOf fvs.toArray cf), (L + 1, co)]) ?hn ?ho ?off ⟨th ++ Str.ofString "../", _, _, _, _, left.dropLast, false, rfl, (if_neg n_tl).trans (if_pos rfl), if_pos rfl, (if_neg n_sl).trans ((if_neg n_st).trans (if_pos rfl)), (fun z h1 h2 h3 h4 => by simp only [if_neg h1, if_neg h2, if_neg h3, if_neg h4]), by assumption, StepsOk_up hO⟩
      case hn => simp
      case ho => intro p hp; simp [hp]
      case off => exact off_new (off_tail hoff') (by assumption) (fun p hp => by simp [hp])
  case done =>
    clear lF lN rgX
    intro m₁ nx h tk hJ F₁ N₁
    obtain ⟨th, tt, la, lvs, lc, left, still, rfl, e1, e2, e3, e4, hS, hO⟩ := hJ
    replace F₁ := frJ' F₁ e1 e2 e3 e4
    have hle := hO.len
    have hAl := (hO.left hN).1
    have hLv := hS.length
    have hE9 : ([Str.ofString "", Str.ofString ".", Str.ofString ".."].getD (atF ns 23 3).toNat PySem.Str.empty).length ≤ 2 := ends_len _
    have hE8 : [Str.ofString "", Str.ofString ".", Str.ofString ".."].getD (atF ns 23 3).toNat PySem.Str.empty ∈ ends := ends_mem _
    have hlf := (hO.left hN).2
    have hi5 : (atF ns 17 6 - 0).toNat ≤ 5 := by omega
    clear e1 e2 e3 e4
    dsimp only
    k_with "table" => skip
    repeat' (first | ((fail_if_success (with_reducible show wpAny _ _ (call (Value.ref 44) _) _ _ _)); first | (k_unfold; (try dsimp only)) | (k_end; wrow_close) | walk1 | (dsimp only; walk1) | (leave1; walk_say "STEP leave1"; try dsimp only) | fail "no step"))
    all_goals (show wpAny _ _ _ _ _ _)
    all_goals walk1
    all_goals ((repeat' (first | ((fail_if_success (with_reducible show R _ _)); first | (k_unfold; (try dsimp only)) | (k_end; wrow_close) | walk1 | (dsimp only; walk1) | (leave1; walk_say "STEP leave1"; try dsimp only) | fail "no step"))))
    all_goals ((first | exact hR _ _ _ _ (by with_reducible assumption) (by with_reducible assumption) | (exfalso; omega)))
end Mine

/-! part KJ -/
namespace Mine
open PySem PySem.W PyProof.Rows
theorem KClaim.or {c1 c2 : Int → Prop} (h1 : KClaim c1) (h2 : KClaim c2) : KClaim (fun k => c1 k ∨ c2 k) := by
  intro w mean mg mb u fa cd h₀ L s R co lf ls fvs svs folders ns cf kind start root here tail rest t1 t2 t3 t4 t5 t6 K0 X T hl hi hlen F N hco hlt hf hN hfl hh hT hrest hk hR
  rcases hk with hk | hk
  · exact h1 w mean mg mb u fa cd h₀ L s R co lf ls fvs svs folders ns cf kind start root here tail rest t1 t2 t3 t4 t5 t6 K0 X T hl hi hlen F N hco hlt hf hN hfl hh hT hrest hk hR
  · exact h2 w mean mg mb u fa cd h₀ L s R co lf ls fvs svs folders ns cf kind start root here tail rest t1 t2 t3 t4 t5 t6 K0 X T hl hi hlen F N hco hlt hf hN hfl hh hT hrest hk hR
theorem KClaim.imp {c1 c2 : Int → Prop} (h1 : KClaim c1) (h : ∀ k, c2 k → c1 k) : KClaim c2 := by
  intro w mean mg mb u fa cd h₀ L s R co lf ls fvs svs folders ns cf kind start root here tail rest t1 t2 t3 t4 t5 t6 K0 X T hl hi hlen F N hco hlt hf hN hfl hh hT hrest hk hR
  exact h1 w mean mg mb u fa cd h₀ L s R co lf ls fvs svs folders ns cf kind start root here tail rest t1 t2 t3 t4 t5 t6 K0 X T hl hi hlen F N hco hlt hf hN hfl hh hT hrest (h _ hk) hR
theorem kK : KClaim (fun k => 0 ≤ k ∧ k < 9) :=
  (k0.or (k4.or (k5.or (k6.or (k7.or k8))))).imp fun k h => by
    have := h.1; have := h.2; show k < 4 ∨ k = 4 ∨ k = 5 ∨ k = 6 ∨ k = 7 ∨ k = 8; omega
end Mine

/-! part KT -/
namespace Mine
open PySem PySem.W PyProof.Rows
theorem reset_KT : True := by
  w_top off
  k_with_none
  trivial
/-- what the rest of the law's body does, from `tail` on -/
def TClaim : Prop :=
  ∀ (w : World) (mean : ExcName → Option Value) (mg mb u : PySem.Str → Option Value) (fa : Addr) (cd : Value) (h₀ : Heap) (L : Addr) (s : Shared) (R : Result → Shared → Prop) (co : Obj) (lf ls : Addr) (fvs svs : List Value)
    (folders : List PySem.Str) (ns : List Int) (cf : Nat) (kind : Int) (start root here : PySem.Str) (t3 t4 t5 t6 : Tok),
    Below callerA h₀ [] h₀ → (hd.heap_39 w.params).In h₀ → Top hd.view_39 (looseW hd.view_39 [Str.ofString "splitFragP", Str.ofString "_law_names"]) mean mg mb h₀ →
    h₀.IsList ls svs.toArray → IntsAre svs ns → ns.length ≤ 63 →
    Fr h₀ L s.heap (fun y => if y = Str.ofString "here" then some (.str here t3) else if y = Str.ofString "root" then some (.str root t4)
      else if y = Str.ofString "start" then some (.str start t5) else if y = Str.ofString "folders" then some (.ref lf) else if y = Str.ofString "kind" then some (.int kind t6) else u y) →
    News h₀ L s.heap [(lf, listOf fvs.toArray cf), (L + 1, co)] → co.data = .cell (some (.ref ls)) → L + 1 < lf →
    StrsAre fvs folders → AllN folders → folders.length ≤ 5 → HereOk start root folders here → 0 ≤ kind → kind < 9 →
    (∀ h' tk m' nw, Fr h₀ L h' m' → News h₀ L h' nw → R (.ok (.ret (.bool true))) { s with heap := h', toks := tk }) →
    wpAny (model PySem.Challenge.rw_ez0312_01.row.prog w) (callerA.deeper (envOfC (Str.ofString "law") lawScope L fa cd)) (execs (lawBody.drop 8) (envOfC (Str.ofString "law") lawScope L fa cd))
      (fun fl s' => R (.ok (.ret (match fl with | .ret v => v | _ => .none))) s')
      (fun e s' => wpAny (model PySem.Challenge.rw_ez0312_01.row.prog w) (callerA.deeper (envOfC (Str.ofString "law") lawScope L fa cd)) (leaving (envOfC (Str.ofString "law") lawScope L fa cd) e) (fun _ s'' => R (.error e) s'') (fun e' s'' => R (.error e') s'') s') s
local macro_rules | `(tactic| walk_at "call ref") => `(tactic| (k_here; (with_reducible show wpAny _ _ (call (Value.ref 37) _) _ _ _); k_dflt (refine' at_call ?k1 ?k2 ?k3 ?k4 ?k5 ?k6 ?k7 ?k8 ?k9 ?k10 ?k11 ?k12 ?k13 ?_; (case k1 => k_asm); (case k2 => k_asm); (case k3 => k_asm); (case k4 => k_asm); (case k5 => k_asm); (case k6 => first | exact rfl | assumption); (case k7 => k_asm); (case k8 => l_ints); (case k9 => l_fit); (case k10 => omega); (case k11 => omega); (case k12 => ktr_room); (case k13 => ktr_units)); intro t' h' tk' q1' q2' F' N'))
local macro_rules | `(tactic| walk_at "call type:range") => `(tactic| ((rename Fr _ _ _ _ => F'); (rename News _ _ _ _ => N'); (with_unfolding_all refine range1_rows F' N' ?_; intro _ _ _ _ _ _ _ _ _)))
local macro_rules | `(tactic| walk_at "eval ListComp") => `(tactic| (k_here; k_dflt (refine LCg.ListComp_U (F₀ := by k_asm) (by with_unfolding_all rfl) (by decide) (by rfl) (by decide) (by rfl) ?_)))
local macro_rules | `(tactic| walk_at "KCtEl") => `(tactic| (refine kct_el rfl (by with_unfolding_all rfl) (by with_unfolding_all rfl)))
local macro_rules | `(tactic| walk_at "call builtin:str.join") => `(tactic| (k_here; (with_reducible show wpAny _ _ (call (Value.builtin "str.join") [Value.str _ _, Value.ref _]) _ _ _); k_dflt (refine' join_small ?N ?m ?i ?s ?l ?n ?_; (case N => k_asm); (case m => k_mem); (case i => assumption); (case s => exact Nat.le_of_ble_eq_true rfl); (case l => (with_reducible exact AllN.le (by assumption))); (case n => (simp only [List.length_map]; simp only [rangeKs_length] at *; omega))); intro t' k' hJ'))
set_option maxRecDepth 100000 in
set_option maxHeartbeats 2000000 in
theorem kT : TClaim := by
  have kk := kK
  unfold KClaim at kk
  unfold TClaim
  dsimp only [lawBody, lawScope, bodyOf, scopeOf, lawDef, PySem.Challenge.pw_ez0312_01, List.headD, List.drop] at kk ⊢
  intro w mean mg mb u fa cd h₀ L s R co lf ls fvs svs folders ns cf kind start root here t3 t4 t5 t6 K0 X
  have X0 := X
  revert X; k_fill; intro X
  intro T hl hi hlen F N hco hlt hf hN hfl hh hk1 hk2 hR
  k_fold
  have hz1 := (here_len hh hN hfl).1
  have hz2 := (here_len hh hN hfl).2.1
  have hz3 := (here_len hh hN hfl).2.2
  k_with "table" => skip
  repeat' (first | ((fail_if_success (first | (with_reducible show wpAny _ _ (execs (Stmt.If _ _ _ _ :: _) _) _ _ _) | (with_reducible show LCg.CompSrc _ _ _ _ _ _ _ _ _ _ _ _ _ _))); first | (k_unfold; (try dsimp only)) | (k_end; wrow_close) | walk1 | (dsimp only; walk1) | (leave1; walk_say "STEP leave1"; try dsimp only) | fail "no step"))
  refine LCg.CompSrc.range (by rfl) (by k_asm) (by k_asm) (by assumption) (small_one (by omega) (by omega) (by omega) (by omega)) (rangeSize_nat _ _) (by rw [PySem.sizeLine_eq]; omega) ?_
  intro g'
  have hA9 : AllN ((rangeKs 0 (atF ns 16 4 - 0).toNat).map fun k => lawNames.getD (atF ns (12 + k) 8).toNat PySem.Str.empty) := AllN_range (f := fun k => (atF ns (12 + k) 8).toNat) (fun k h1 h2 => by
    have := atF_fact ns (12 + k) 8 (by omega)
    omega)
  have hl9 : (rangeKs 0 (atF ns 16 4 - 0).toNat).length ≤ 3 := by rw [rangeKs_length]; omega
  refine' ct_range (fun k => lawNames.getD (atF ns (12 + k) 8).toNat PySem.Str.empty) (fun k' t' I' oI' C' oC' D' m' ys' h' tk' E' hk1' hk2' hC' hx' F' N' off' ne' => ?_) ?_
  (all_goals (try (simp only [LCg.Off3, and_true] at off')))
  all_goals (dsimp only)
  all_goals (repeat' (first | ((fail_if_success (first | (with_reducible show wpAny _ _ (execs (Stmt.If _ _ _ _ :: _) _) _ _ _) | (with_reducible show LCg.CompSrc _ _ _ _ _ _ _ _ _ _ _ _ _ _))); first | (k_unfold; (try dsimp only)) | (k_end; wrow_close) | walk1 | (dsimp only; walk1) | (leave1; walk_say "STEP leave1"; try dsimp only) | fail "no step")))
  (rename Fr _ _ _ _ => eF)
  (rename News _ _ _ _ => eN)
  refine kk w mean mg mb u fa cd h₀ L _ R co lf ls fvs svs folders ns cf kind start root here _ _ _ _ t3 t4 t5 t6 K0 X0 T hl hi hlen eF (cb_drop eN (fun p hp => List.Mem.tail _ (List.Mem.tail _ hp))) hco hlt hf hN hfl hh (getD_mem (l := tails) (by show _ < 5; omega)) ⟨_, hA9, by rw [List.length_map]; exact hl9, rfl⟩ ⟨hk1, hk2⟩ (fun h' tk m' nw F N => hR h' tk m' nw F N)
end Mine

/-! part L5 -/
namespace Mine
open PySem PySem.W PyProof.Rows
theorem reset_L5 : True := by
  w_top off
  k_with_none
  trivial
theorem frT {h₀ h : Heap} {L : Addr} {m : PySem.Str → Option Value} {v1 v2 v3 v4 v5 : Value} (F : Fr h₀ L h m)
    (h1 : m (Str.ofString "here") = some v1) (h2 : m (Str.ofString "root") = some v2) (h3 : m (Str.ofString "start") = some v3) (h4 : m (Str.ofString "folders") = some v4) (h5 : m (Str.ofString "kind") = some v5) :
    Fr h₀ L h (fun y => if y = Str.ofString "here" then some v1 else if y = Str.ofString "root" then some v2 else if y = Str.ofString "start" then some v3 else if y = Str.ofString "folders" then some v4 else if y = Str.ofString "kind" then some v5 else m y) := by
  have e : m = (fun y => if y = Str.ofString "here" then some v1 else if y = Str.ofString "root" then some v2 else if y = Str.ofString "start" then some v3 else if y = Str.ofString "folders" then some v4 else if y = Str.ofString "kind" then some v5 else m y) := by
    funext y
    by_cases e1 : y = Str.ofString "here"
    · rw [if_pos e1, e1, h1]
    · rw [if_neg e1]
      by_cases e2 : y = Str.ofString "root"
      · rw [if_pos e2, e2, h2]
      · rw [if_neg e2]
        by_cases e3 : y = Str.ofString "start"
        · rw [if_pos e3, e3, h3]
        · rw [if_neg e3]
          by_cases e4 : y = Str.ofString "folders"
          · rw [if_pos e4, e4, h4]
          · rw [if_neg e4]
            by_cases e5 : y = Str.ofString "kind"
            · rw [if_pos e5, e5, h5]
            · rw [if_neg e5]
  rw [← e]; exact F
local macro_rules | `(tactic| walk_at "call ref") => `(tactic| (k_here; (with_reducible show wpAny _ _ (call (Value.ref 37) _) _ _ _); k_dflt (refine' at_call ?k1 ?k2 ?k3 ?k4 ?k5 ?k6 ?k7 ?k8 ?k9 ?k10 ?k11 ?k12 ?k13 ?_; (case k1 => k_asm); (case k2 => k_asm); (case k3 => k_asm); (case k4 => k_asm); (case k5 => k_asm); (case k6 => first | exact rfl | assumption); (case k7 => k_asm); (case k8 => l_ints); (case k9 => l_fit); (case k10 => omega); (case k11 => omega); (case k12 => ktr_room); (case k13 => ktr_units)); intro t' h' tk' q1' q2' F' N'))
local macro_rules | `(tactic| walk_at "call type:range") => `(tactic| ((rename Fr _ _ _ _ => F'); (rename News _ _ _ _ => N'); (with_unfolding_all refine range1_rows F' N' ?_; intro _ _ _ _ _ _ _ _ _)))
local macro_rules | `(tactic| walk_at "eval ListComp") => `(tactic| (k_here; k_dflt (refine LCg.ListComp_U (F₀ := by k_asm) (by with_unfolding_all rfl) (by decide) (by rfl) (by decide) (by rfl) ?_)))
local macro_rules | `(tactic| walk_at "CompSrc") => `(tactic| (k_here; k_dflt (first
  | ((with_reducible show LCg.CompSrc _ _ _ _ _ _ _ (PySem.Expr.BinOp (PySem.Expr.Constant _ _ _) _ _ _) _ _ _ _ _ _); (refine LCg.CompSrc.ledger (by rfl) (by k_asm) (by k_asm) (by k_mem) (by (simp only [List.size_toArray, PySem.sizeLine_eq]; simp only [rangeKs_length] at *; omega)) ?_); intro g'; (refine' ct_texts gPre (by assumption) (fun k' t' I' oI' C' oC' D' m' ys' h' tk' E' hk' hC' hx' F' N' off' ne' => have kn' := first_len (by first | assumption | exact AllN_dl (by assumption)) hk'; ?_) ?_); (all_goals (try (simp only [LCg.Off3, and_true] at off'))))
  | ((with_reducible show LCg.CompSrc _ _ _ _ _ _ _ (PySem.Expr.BinOp (PySem.Expr.Name _ _) _ _ _) _ _ _ _ _ _); (refine LCg.CompSrc.ledger (by rfl) (by k_asm) (by k_asm) (by k_mem) (by (simp only [List.size_toArray, PySem.sizeLine_eq]; simp only [rangeKs_length] at *; omega)) ?_); intro g'; (refine' ct_texts gSuf (by assumption) (fun k' t' I' oI' C' oC' D' m' ys' h' tk' E' hk' hC' hx' F' N' off' ne' => have kn' := first_len (by first | assumption | exact AllN_dl (by assumption)) hk'; ?_) ?_); (all_goals (try (simp only [LCg.Off3, and_true] at off')))))))
local macro_rules | `(tactic| walk_at "call builtin:str.join") => `(tactic| (k_here; (with_reducible show wpAny _ _ (call (Value.builtin "str.join") [Value.str _ _, Value.ref _]) _ _ _); k_dflt (refine' join_small ?N ?m ?i ?s ?l ?n ?_; (case N => k_asm); (case m => k_mem); (case i => assumption); (case s => exact Nat.le_of_ble_eq_true rfl); (case l => first | exact AllN.pre (by assumption) | exact AllN.suf (by assumption) | exact AllN.le (by assumption)); (case n => (simp only [List.length_map]; simp only [rangeKs_length] at *; omega))); intro t' k' hJ'))
local macro_rules | `(tactic| walk_at "compareOp Eq ref ref") => `(tactic| (k_here; (with_reducible show wpAny _ _ (compareOp CmpOp.Eq (Value.ref _) (Value.ref _)) _ _ _); k_dflt (refine' eq_textsNil ?N ?m ?i ?m2 ?a ?u ?_; (case N => k_asm); (case m => k_mem); (case i => assumption); (case m2 => k_mem); (case a => assumption); (case u => units_room); k_whole)))
local macro_rules | `(tactic| walk_at "KCtEl") => `(tactic| (refine kct_el rfl (by with_unfolding_all rfl) (by with_unfolding_all rfl)))
theorem post_ok (ns : List Int) : PySem.Challenge.rw_ez0312_01.row.claim.post [ofPy (PyData.list (List.map PyData.int ns))] (.bool true) [ofPy (PyData.list (List.map PyData.int ns))] = true := by
  wrow_post
set_option maxRecDepth 100000 in
set_option maxHeartbeats 2000000 in
theorem t0 : PySem.Challenge.rw_ez0312_01.Holds := by
  k_with "table" => skip
  k_with "pyIter ref" => k_state (fun pre folders => folders.length = pre.length ∧ AllN folders) "folders$"
  k_with "state" => exact ⟨by simp_all, by first | exact AllN_nil | exact AllN_snoc (by assumption) (names_mem (by omega))⟩
  refine hd ?_
  w_strict (k_go0)
  (all_goals try k_fold)
  repeat' (first | ((fail_if_success (with_reducible show wpAny _ _ (execs (Stmt.Assign [Expr.Name (Str.ofString "tail") _] _ _ :: _) _) _ _ _)); first | (k_unfold; (try dsimp only)) | (k_end; wrow_close) | walk1 | (dsimp only; walk1) | (leave1; walk_say "STEP leave1"; try dsimp only) | fail "no step"))
  all_goals (with_reducible show wpAny _ _ _ _ _ _)
  all_goals (
    have kt := kT
    unfold TClaim at kt
    dsimp only [lawBody, lawScope, bodyOf, scopeOf, lawDef, PySem.Challenge.pw_ez0312_01, List.headD, List.drop] at kt
    (rename Fr _ _ _ _ => eF)
    (rename News _ _ _ _ => eN)
    (refine' kt _ (ExcName.means _) _ _ _ _ _ _ _ _ (GoodW PySem.Challenge.rw_ez0312_01.row.claim (classAt _) (ExcName.means _) [_] _) _ _ _ _ _ _ _ _ _ _ _ _ _ _ _ _ ?a1 ?a2 ?a3 ?a4 ?a5 ?a6 ?aF ?aN ?a7 ?a8 ?a9 ?a10 ?a11 ?a12 ?a13 ?a14 ?a15)
    case aF => (have h1 := frT eF (by rfl) (by rfl) (by rfl) (by rfl) (by rfl); exact h1)
    case aN => (have h2 := cb_drop (news := [_, _]) eN (fun p hp => List.Mem.tail _ (List.Mem.tail _ (List.Mem.tail _ (List.Mem.tail _ (List.Mem.tail _ hp))))); exact h2)
    case a1 => k_asm
    case a2 => k_asm
    case a3 => k_asm
    case a4 => assumption
    case a5 => assumption
    case a6 => omega
    case a7 => ((rename Obj.data _ = Data.cell _ => cD); exact cD.trans (by with_unfolding_all rfl))
    case a8 => omega
    case a9 => assumption
    case a10 => assumption
    case a11 => ((rename List.length _ = List.length (rangeKs _ _) => e9); rw [e9, rangeKs_length]; omega)
    case a12 => (first | exact ⟨getD_mem (l := starts) (by show _ < 2; omega), ⟨_, getD_mem (l := hosts) (by show _ < 3; omega), rfl⟩, .inl ⟨_, getD_mem (l := lasts) (by show _ < 3; omega), rfl⟩⟩ | exact ⟨getD_mem (l := starts) (by show _ < 2; omega), ⟨_, getD_mem (l := hosts) (by show _ < 3; omega), rfl⟩, .inr ⟨by assumption, rfl⟩⟩)
    case a13 => omega
    case a14 => omega
    case a15 => ((intro h9 tk9 m9 nw9 F9 N9); (refine goodW_bool F9 (by assumption) (raisesW_false ?_) ?_); (· wrow_none_raised); (· exact post_ok _)))
end Mine

theorem PySem.Challenge.cw_ez0312_01_holds : PySem.Challenge.rw_ez0312_01.Holds := by
  exact Mine.t0
