import PyProof.Rows.All
import Wide.All
import OpenK.AllK
import Wide.FinOn
import PySem.Challenge.RW_bg5016_01

set_option Elab.async false

section
open PySem PySem.W PyProof.Rows
namespace Mine
/-- the words of the plain law -/
def Sg1 (t : Str) : Prop := ∃ c : Nat, t = ⟨#[c]⟩ ∧ (c = 32 ∨ c = 9 ∨ c = 12 ∨ c = 160 ∨ c = 97)
def BodyOk (b : Str) : Prop := b.length ≤ 19 ∧ ∀ c ∈ b.cps.toList, c = 32 ∨ c = 9 ∨ c = 12 ∨ c = 160 ∨ c = 97
abbrev ends : List Str := [Str.ofString "", Str.ofString "\n", Str.ofString "\r\n"]
abbrev pres : List Str := [Str.ofString "", Str.ofString "", Str.ofString "u", Str.ofString "r", Str.ofString "b", Str.ofString "rb", Str.ofString "Rb", Str.ofString "f"]
abbrev quos : List Str := [Str.ofString "\"", Str.ofString "'", Str.ofString "\"\"\"", Str.ofString "'''"]
/-- the items of a text's inner signs -/
abbrev items (o q : Str) : List Str := [Str.ofString "a", Str.ofString " ", Str.ofString "#", o, Str.ofString "\\" ++ Txt.item q 0, Str.ofString "(", Str.ofString "\n"]
def InnOk (q inn : Str) : Prop := ∃ o ws, inn = Txt.join (Str.ofString "") ws ∧ ws.length ≤ 8 ∧ (o = Str.ofString "'" ∨ o = Str.ofString "\"") ∧ o ≠ Txt.item q 0 ∧ ∀ w ∈ ws, w ∈ items o q
def widI : List Int → Int := fun l => l.foldl (fun n c => if c = 32 then n + 1 else (n + 8) / 8 * 8) 0
def widthF (b : Str) : Int :=
  if 9 ∈ b.cps.toList then widI ((b.cps.toList.takeWhile fun c => c == 32 || c == 9).map fun (c : Nat) => (c : Int))
  else ((b.cps.toList.takeWhile fun c => c == 32 || c == 12 || c == 160).length : Int)
abbrev XX (n : Int) : Str := Txt.mul (Str.ofString "x") n
end Mine
end

section
open PySem PySem.W PyProof.Rows PySem.Builtin PySem.Builtin.Str
namespace Mine
theorem mk_of {x : Str} {l : List Nat} (h : x.cps.toList = l) : x = ⟨l.toArray⟩ := StrLaws.mk_of_toList h
theorem str_ext {x y : Str} (h : x.cps.toList = y.cps.toList) : x = y := Str.ext' (Array.toList_inj.mp h)
theorem len_list (x : Str) : x.cps.toList.length = x.length := by simp [Str.length]
abbrev Off (x y : Str) (b : Bool) : Prop := (Builtin.Str.occurrences x y 0 x.length 1).isEmpty = b
abbrev WS : Str := Str.ofString " \x0c\u00a0"
theorem tb_one : Str.ofString "\t" = ⟨#[9]⟩ := by decide +kernel
theorem ws_is : WS = ⟨#[32, 12, 160]⟩ := by decide +kernel
theorem off_one {x y : Str} {c : Nat} (e : y = ⟨#[c]⟩) {b : Bool} (h : Off x y b) : (c ∈ x.cps.toList) ↔ b = false := by
  subst e
  have f := StrLaws.found_one x c
  rw [show (occurrences x ⟨#[c]⟩ 0 x.length 1).isEmpty = b from h] at f
  cases b <;> simp at f <;> simp [f]
theorem no_tab {x : Str} (h : Off x (Str.ofString "\t") true) : 9 ∉ x.cps.toList := fun c => by
  have := (off_one tb_one h).mp c; cases this
theorem has_tab {x : Str} (h : Off x (Str.ofString "\t") false) : 9 ∈ x.cps.toList := (off_one tb_one h).mpr rfl
theorem item_is {x : Str} {j : Int} {c : Nat} (h0 : 0 ≤ j) (h : x.cps.toList[j.toNat]? = some c) : Txt.item x j = ⟨#[c]⟩ := by
  have h' : x.cps[j.toNat]? = some c := by simpa using h
  unfold Txt.item Txt.charAt
  rw [StrLaws.at_nonneg h0 h']
  rfl
theorem wsp_iff {x : Str} {j : Int} {c : Nat} (h0 : 0 ≤ j) (h : x.cps.toList[j.toNat]? = some c) {b : Bool} (ho : Off WS (Txt.item x j) b) : (c == 32 || c == 12 || c == 160) = !b := by
  have e := off_one (item_is h0 h) ho
  rw [ws_is] at e
  have e' : (c = 32 ∨ c = 12 ∨ c = 160) ↔ b = false := by simpa using e
  cases b with
  | true =>
    have : ¬ (c = 32 ∨ c = 12 ∨ c = 160) := fun h => by have := e'.mp h; cases this
    simp only [not_or] at this
    simp [this]
  | false =>
    have := e'.mpr rfl
    simp only [Bool.not_false, Bool.or_eq_true, beq_iff_eq]
    omega
theorem tw_len (p : Nat → Bool) : ∀ (l : List Nat) (n : Nat), n ≤ l.length → (∀ j c, j < n → l[j]? = some c → p c = true) → (∀ c, l[n]? = some c → p c = false) → (l.takeWhile p).length = n
  | [], n, h, _, _ => by
    have : n = 0 := by simpa using h
    subst this; rfl
  | a :: r, 0, _, _, h2 => by
    have := h2 a (by simp)
    simp [List.takeWhile_cons, this]
  | a :: r, n + 1, h, h1, h2 => by
    have ha := h1 0 a (by omega) (by simp)
    rw [List.takeWhile_cons, if_pos ha, List.length_cons, tw_len p r n (by simpa using h) (fun j c hj hc => h1 (j + 1) c (by omega) (by simpa using hc)) (fun c hc => h2 c (by simpa using hc))]
theorem tw_congr {p q : Nat → Bool} : ∀ (l : List Nat), (∀ c ∈ l, p c = q c) → l.takeWhile p = l.takeWhile q
  | [], _ => rfl
  | a :: r, h => by
    rw [List.takeWhile_cons, List.takeWhile_cons, h a (by simp), tw_congr r fun c hc => h c (by simp [hc])]

/-- the three answers of _law_width -/
theorem width_r1 {x : Str} (ht : Off x (Str.ofString "\t") true) (n : Int) (h0 : 0 ≤ n) (h1 : n ≤ (x.length : Int)) (h2 : ∀ j : Int, 0 ≤ j → j < n → Off WS (Txt.item x j) false) (h3 : n < (x.length : Int) → Off WS (Txt.item x n) true) : n = widthF x := by
  unfold widthF
  rw [if_neg (no_tab ht), tw_len _ _ n.toNat (by rw [len_list]; omega) (fun j c hj hc => ?_) (fun c hc => ?_)]
  · omega
  · have e : ((j : Nat) : Int).toNat = j := by omega
    exact wsp_iff (j := (j : Int)) (by omega) (by rw [e]; exact hc) (h2 j (by omega) (by omega))
  · have hlt : n.toNat < x.cps.toList.length := (List.getElem?_eq_some_iff.mp hc).1
    rw [len_list] at hlt
    exact wsp_iff h0 hc (h3 (by omega))
abbrev bt (c : Int) : Bool := c == 32 || c == 9
theorem bt_map (l : List Nat) : ((l.takeWhile fun c => c == 32 || c == 9).map fun (c : Nat) => (c : Int)) = (l.map fun (c : Nat) => (c : Int)).takeWhile bt := by
  induction l with
  | nil => rfl
  | cons a r ih =>
    have e : bt (a : Int) = (a == 32 || a == 9) := by
      rw [Bool.eq_iff_iff]
      simp [bt]
      omega
    rw [List.takeWhile_cons, List.map_cons, List.takeWhile_cons, e]
    split
    · rw [List.map_cons, ih]
    · rfl
theorem widthF_tab {x : Str} (ht : 9 ∈ x.cps.toList) : widthF x = widI ((KStt.codes x).takeWhile bt) := by
  unfold widthF
  rw [if_pos ht, bt_map]
  rfl
theorem tw_all {l : List Int} (h : ∀ c ∈ l, c = 32 ∨ c = 9) : l.takeWhile bt = l := by
  induction l with
  | nil => rfl
  | cons a r ih =>
    have : bt a = true := by
      have := h a (by simp)
      simp [bt]; omega
    rw [List.takeWhile_cons, if_pos this, ih fun c hc => h c (by simp [hc])]
theorem tw_stop {pre post : List Int} {n : Nat} (h : ∀ c ∈ pre, c = 32 ∨ c = 9) (h1 : n ≠ 32) (h2 : n ≠ 9) : (pre ++ (n : Int) :: post).takeWhile bt = pre := by
  induction pre with
  | nil =>
    have : bt (n : Int) = false := by
      simp [bt]; omega
    rw [List.nil_append, List.takeWhile_cons, this]; rfl
  | cons a r ih =>
    have : bt a = true := by
      have := h a (by simp)
      simp [bt]; omega
    rw [List.cons_append, List.takeWhile_cons, if_pos this, ih fun c hc => h c (by simp [hc])]
theorem width_r2' {x : Str} (pre : List Int) (n : Nat) (post : List Int) (e : KStt.codes x = pre ++ (n : Int) :: post) (h : ∀ c ∈ pre, c = 32 ∨ c = 9) (h1 : n ≠ 32) (h2 : n ≠ 9) : widI pre = widI ((KStt.codes x).takeWhile bt) := by
  rw [e, tw_stop h h1 h2]
theorem width_r3' {x : Str} (h : ∀ c ∈ KStt.codes x, c = 32 ∨ c = 9) : widI (KStt.codes x) = widI ((KStt.codes x).takeWhile bt) := by
  rw [tw_all h]
theorem width_r2 {x : Str} (ht : Off x (Str.ofString "\t") false) (pre : List Int) (n : Nat) (post : List Int) (e : KStt.codes x = pre ++ (n : Int) :: post) (h : ∀ c ∈ pre, c = 32 ∨ c = 9) (h1 : n ≠ 32) (h2 : n ≠ 9) : widI pre = widthF x := by
  rw [widthF_tab (has_tab ht)]; exact width_r2' pre n post e h h1 h2
theorem width_r3 {x : Str} (ht : Off x (Str.ofString "\t") false) (h : ∀ c ∈ KStt.codes x, c = 32 ∨ c = 9) : widI (KStt.codes x) = widthF x := by
  rw [widthF_tab (has_tab ht)]; exact width_r3' h

/-- rstrip takes the end off -/
abbrev RS (x : Str) : Str := Txt.rstripChars x (Str.ofString "\n\r")
theorem nr_is : Str.ofString "\n\r" = ⟨#[10, 13]⟩ := by decide +kernel
theorem end_codes {en : Str} (h : en ∈ ends) : ∀ c ∈ en.cps.toList, c = 10 ∨ c = 13 := by
  simp only [List.mem_cons, List.not_mem_nil, or_false] at h
  rcases h with rfl | rfl | rfl
  · rw [show Str.ofString "" = ⟨#[]⟩ from by decide +kernel]; simp
  · rw [show Str.ofString "\n" = ⟨#[10]⟩ from by decide +kernel]; simp
  · rw [show Str.ofString "\r\n" = ⟨#[13, 10]⟩ from by decide +kernel]; simp
theorem getD_of {x : Str} {k c : Nat} (h : x.cps.toList[k]? = some c) : x.cps.getD k 0 = c := StrLaws.getD_of_getElem? h
theorem rs_body {bd en : Str} (hb : BodyOk bd) (he : en ∈ ends) : RS (bd ++ en) = bd := by
  have hl : (bd ++ en).cps.toList = bd.cps.toList ++ en.cps.toList := by rw [Str.cps_append, Array.toList_append]
  have goes : ∀ c, ((Str.ofString "\n\r").cps.contains c) = true ↔ (c = 10 ∨ c = 13) := fun c => by
    rw [nr_is]; simp
  show Txt.stripBy _ false true (bd ++ en) = bd
  rw [PyProof.Rows.stripBy_eq]
  have lo0 : stripLo (Str.ofString "\n\r").cps.contains false (bd ++ en) = 0 := rfl
  rw [lo0]
  obtain ⟨_, h2, h3, h4⟩ := hi_facts (Str.ofString "\n\r").cps.contains (bd ++ en) 0 (Nat.zero_le _)
  generalize stripHi (Str.ofString "\n\r").cps.contains true (bd ++ en) 0 = hi at h2 h3 h4 ⊢
  have hlen : (bd ++ en).length = bd.length + en.length := Str.length_append bd en
  have e : hi = bd.length := by
    rcases Nat.lt_trichotomy hi bd.length with h | h | h
    · exfalso
      have hk : bd.length - 1 < bd.cps.toList.length := by rw [len_list]; omega
      have hget : (bd ++ en).cps.toList[bd.length - 1]? = some bd.cps.toList[bd.length - 1] := by
        rw [hl, List.getElem?_append_left hk, List.getElem?_eq_getElem hk]
      have hg := h3 (bd.length - 1) (by omega) (by omega)
      rw [getD_of hget, goes] at hg
      have := hb.2 _ (List.getElem_mem hk)
      omega
    · exact h
    · exfalso
      have hk : hi - 1 - bd.cps.toList.length < en.cps.toList.length := by rw [len_list, len_list]; omega
      have hget : (bd ++ en).cps.toList[hi - 1]? = some en.cps.toList[hi - 1 - bd.cps.toList.length] := by
        rw [hl, List.getElem?_append_right (by rw [len_list]; omega), List.getElem?_eq_getElem hk]
      rcases h4 with h4 | h4
      · omega
      · rw [getD_of hget] at h4
        have hc := (goes _).mpr (end_codes he _ (List.getElem_mem hk))
        rw [hc] at h4; cases h4
  subst e
  apply str_ext
  rw [StrLaws.strSub_toList, hl, List.drop_zero, Nat.sub_zero, ← len_list, List.take_left]
theorem sp_cases {c : Nat} (h : c = 32 ∨ c = 9 ∨ c = 12 ∨ c = 160 ∨ c = 97) (h9 : c ≠ 9) : Unicode.isSpace c = (c == 32 || c == 12 || c == 160) := by
  rcases h with rfl | rfl | rfl | rfl | rfl
  · decide +kernel
  · exact absurd rfl h9
  · decide +kernel
  · decide +kernel
  · decide +kernel
theorem expand_r1 {bd : Str} (hb : BodyOk bd) (ht : Off bd (Str.ofString "\t") true) : (bd.length : Int) - ((Txt.lstrip bd).length : Int) = widthF bd := by
  have h9 := no_tab ht
  unfold widthF
  rw [if_neg h9]
  have hs : Txt.lstrip bd = strSub bd (stripLo Unicode.isSpace true bd) bd.length := PyProof.Rows.stripBy_eq _ _ _ _
  have hlo : stripLo Unicode.isSpace true bd = (bd.cps.toList.takeWhile fun c => c == 32 || c == 12 || c == 160).length := by
    show (bd.cps.toList.takeWhile Unicode.isSpace).length = _
    rw [tw_congr _ fun c hc => sp_cases (hb.2 c hc) fun e => h9 (e ▸ hc)]
  have hle := (lo_facts Unicode.isSpace bd).1
  have hn : (Txt.lstrip bd).length = bd.length - stripLo Unicode.isSpace true bd := by
    rw [hs, ← len_list, StrLaws.strSub_toList, List.length_take, List.length_drop, len_list]; omega
  rw [hn, ← hlo]
  omega
end Mine
end

section
open PySem PySem.W PyProof.Rows PySem.Builtin PySem.Builtin.Str
namespace Mine
/-- a text's codes -/
abbrev cd (x : Str) : List Nat := x.cps.toList
theorem cd_app (a b : Str) : cd (a ++ b) = cd a ++ cd b := by
  show (a ++ b).cps.toList = _
  rw [Str.cps_append, Array.toList_append]
theorem empty_is : Str.ofString "" = ⟨#[]⟩ := by decide +kernel
theorem cd_join : ∀ ws : List Str, cd (Txt.join (Str.ofString "") ws) = (ws.map cd).flatten := by
  have key : ∀ ws : List Str, cd (Str.join (Str.ofString "") ws) = (ws.map cd).flatten := by
    intro ws
    induction ws with
    | nil => rfl
    | cons a r ih =>
      cases r with
      | nil => simp [cd, Str.join]
      | cons b r =>
        show cd (a ++ Str.ofString "" ++ Str.join (Str.ofString "") (b :: r)) = _
        rw [cd_app, cd_app, ih, empty_is]
        simp [cd]
  intro ws
  show cd (Builtin.Str.glued (Str.ofString "") ws) = _
  rw [StrLaws.glued_eq_join]
  exact key ws
theorem sg1_len {w : Str} (h : Sg1 w) : w.length = 1 := by
  obtain ⟨c, rfl, _⟩ := h; rfl
theorem body_weight {ws : List Str} {b : Int} (hn : ((ws.length : Nat) : Int) = b) (hb : b ≤ 19) (h : ∀ w ∈ ws, Sg1 w) : (ws.map (·.length)).sum + ws.length ≤ 1048576 := by
  have := StrLaws.sumLen_le (B := 1) ws fun y hy => by rw [sg1_len (h y hy)]; exact Nat.le_refl _
  omega
theorem body_join {ws : List Str} {b : Int} (hn : ((ws.length : Nat) : Int) = b) (hb : b ≤ 19) (h : ∀ w ∈ ws, Sg1 w) : BodyOk (Txt.join (Str.ofString "") ws) := by
  have key : ∀ ws : List Str, (∀ w ∈ ws, Sg1 w) → (ws.map cd).flatten.length = ws.length ∧ ∀ c ∈ (ws.map cd).flatten, c = 32 ∨ c = 9 ∨ c = 12 ∨ c = 160 ∨ c = 97 := by
    intro ws
    induction ws with
    | nil => intro _; exact ⟨rfl, fun c hc => by simp at hc⟩
    | cons a r ih =>
      intro h
      obtain ⟨c, rfl, hc⟩ := h _ (.head _)
      obtain ⟨i1, i2⟩ := ih fun w hw => h w (.tail _ hw)
      refine ⟨by simp only [List.map_cons, List.flatten_cons, List.length_append, i1, List.length_cons]; simp [cd]; omega, fun x hx => ?_⟩
      rw [List.map_cons, List.flatten_cons, List.mem_append] at hx
      rcases hx with hx | hx
      · have : x = c := by simpa [cd] using hx
        subst this; exact hc
      · exact i2 x hx
  obtain ⟨k1, k2⟩ := key ws h
  refine ⟨?_, fun c hc => k2 c (by rw [← cd_join]; exact hc)⟩
  rw [← len_list, show (Txt.join (Str.ofString "") ws).cps.toList = _ from cd_join ws, k1]
  omega

/-- a quote's sign and how often -/
theorem quo_is {q : Str} (h : q ∈ quos) : ∃ c m : Nat, (c = 34 ∨ c = 39) ∧ (m = 1 ∨ m = 3) ∧ cd q = List.replicate m c ∧ Txt.item q 0 = ⟨#[c]⟩ := by
  simp only [List.mem_cons, List.not_mem_nil, or_false] at h
  rcases h with rfl | rfl | rfl | rfl
  · exact ⟨34, 1, by decide, by decide, by decide +kernel, by decide +kernel⟩
  · exact ⟨39, 1, by decide, by decide, by decide +kernel, by decide +kernel⟩
  · exact ⟨34, 3, by decide, by decide, by decide +kernel, by decide +kernel⟩
  · exact ⟨39, 3, by decide, by decide, by decide +kernel, by decide +kernel⟩
theorem pre_free {p : Str} (h : p ∈ pres) : p.length ≤ 2 ∧ ∀ c ∈ cd p, c ≠ 34 ∧ c ≠ 39 := by
  simp only [List.mem_cons, List.not_mem_nil, or_false] at h
  rcases h with rfl | rfl | rfl | rfl | rfl | rfl | rfl | rfl <;> decide +kernel
theorem it_len {o q w : Str} (ho : o = Str.ofString "'" ∨ o = Str.ofString "\"") (h : w ∈ items o q) : w.length ≤ 2 := by
  have ho' : o.length ≤ 2 := by rcases ho with rfl | rfl <;> decide +kernel
  simp only [List.mem_cons, List.not_mem_nil, or_false] at h
  rcases h with rfl | rfl | rfl | rfl | rfl | rfl | rfl
  · decide +kernel
  · decide +kernel
  · decide +kernel
  · exact ho'
  · rw [Str.length_append]
    have : (Str.ofString "\\").length = 1 := by decide +kernel
    rw [this]; exact Nat.le_refl _
  · decide +kernel
  · decide +kernel
theorem inn_weight {ws : List Str} {b : Int} {o q : Str} (ho : o = Str.ofString "'" ∨ o = Str.ofString "\"") (hn : ((ws.length : Nat) : Int) = b) (hb : b ≤ 8) (h : ∀ w ∈ ws, w ∈ items o q) : (ws.map (·.length)).sum + ws.length ≤ 1048576 := by
  have := StrLaws.sumLen_le (B := 2) ws fun y hy => it_len ho (h y hy)
  omega
theorem inn_join {ws : List Str} {b : Int} {o q : Str} (ho : o = Str.ofString "'" ∨ o = Str.ofString "\"") (hoq : o ≠ Txt.item q 0) (hn : ((ws.length : Nat) : Int) = b) (hb : b ≤ 8) (h : ∀ w ∈ ws, w ∈ items o q) : InnOk q (Txt.join (Str.ofString "") ws) :=
  ⟨o, ws, rfl, by omega, ho, hoq, h⟩
theorem inn_len {q inn : Str} (h : InnOk q inn) : inn.length ≤ 16 := by
  obtain ⟨o, ws, rfl, hn, ho, _, h⟩ := h
  rw [← len_list, show (Txt.join (Str.ofString "") ws).cps.toList = _ from cd_join ws]
  have key : ∀ ws : List Str, (∀ w ∈ ws, w.length ≤ 2) → (ws.map cd).flatten.length ≤ 2 * ws.length := by
    intro ws
    induction ws with
    | nil => intro _; exact Nat.le_refl _
    | cons a r ih =>
      intro h
      have h1 := h a (.head _)
      have h2 := ih fun w hw => h w (.tail _ hw)
      rw [List.map_cons, List.flatten_cons, List.length_append, List.length_cons, len_list]
      omega
  have := key ws fun w hw => it_len ho (h w hw)
  omega

/-- the last two of the inner signs are not both the quote's sign, a lone one is not it -/
def Qf (c : Nat) (l : List Nat) : Prop := match l.reverse with
  | [] => True
  | [a] => a ≠ c
  | a :: b :: _ => ¬ (a = c ∧ b = c)
theorem qf_last {c : Nat} {l w : List Nat} (h : w = [92, c] ∨ ∃ d, w = [d] ∧ d ≠ c) (hc : c ≠ 92) : Qf c (l ++ w) := by
  unfold Qf
  rw [List.reverse_append]
  rcases h with rfl | ⟨d, rfl, hd⟩
  · show ¬ (c = c ∧ 92 = c)
    omega
  · show (match d :: l.reverse with
      | [] => True
      | [a] => a ≠ c
      | a :: b :: _ => ¬ (a = c ∧ b = c))
    cases l.reverse with
    | nil => exact hd
    | cons b r => exact fun h => hd h.1
theorem it_kind {o q w : Str} {c : Nat} (hq : Txt.item q 0 = ⟨#[c]⟩) (hc : c = 34 ∨ c = 39) (ho : o = Str.ofString "'" ∨ o = Str.ofString "\"") (hoq : o ≠ Txt.item q 0) (h : w ∈ items o q) : cd w = [92, c] ∨ ∃ d, cd w = [d] ∧ d ≠ c := by
  simp only [List.mem_cons, List.not_mem_nil, or_false] at h
  rcases h with rfl | rfl | rfl | rfl | rfl | rfl | rfl
  · exact .inr ⟨97, by decide +kernel, by omega⟩
  · exact .inr ⟨32, by decide +kernel, by omega⟩
  · exact .inr ⟨35, by decide +kernel, by omega⟩
  · rw [hq] at hoq
    right
    rcases ho with rfl | rfl
    · refine ⟨39, by decide +kernel, fun e => hoq ?_⟩
      rw [← e]; decide +kernel
    · refine ⟨34, by decide +kernel, fun e => hoq ?_⟩
      rw [← e]; decide +kernel
  · left
    rw [cd_app, hq, show cd (Str.ofString "\\") = [92] from by decide +kernel]
    rfl
  · exact .inr ⟨40, by decide +kernel, by omega⟩
  · exact .inr ⟨10, by decide +kernel, by omega⟩
theorem inn_qf {q inn : Str} {c : Nat} (hq : Txt.item q 0 = ⟨#[c]⟩) (hc : c = 34 ∨ c = 39) (h : InnOk q inn) : Qf c (cd inn) := by
  obtain ⟨o, ws, rfl, _, ho, hoq, h⟩ := h
  rw [cd_join]
  rcases List.eq_nil_or_concat ws with rfl | ⟨r, w, rfl⟩
  · trivial
  · rw [List.concat_eq_append, List.map_append, List.flatten_append]
    show Qf c ((r.map cd).flatten ++ [cd w].flatten)
    rw [show [cd w].flatten = cd w by simp]
    exact qf_last (it_kind hq hc ho hoq (h w (by simp))) (by omega)
theorem xx_cd (n : Int) : cd (XX n) = List.replicate n.toNat 120 := by
  show (Txt.mul (Str.ofString "x") n).cps.toList = _
  rw [show Str.ofString "x" = ⟨#[120]⟩ from by decide +kernel]
  exact mul_one_list 120 n
theorem xx_qf (c : Nat) (hc : c = 34 ∨ c = 39) (n : Int) : Qf c (cd (XX n)) := by
  rw [xx_cd]
  unfold Qf
  rw [List.reverse_replicate]
  cases n.toNat with
  | zero => trivial
  | succ k =>
    rw [List.replicate_succ]
    cases k with
    | zero => show (120 : Nat) ≠ c; omega
    | succ j =>
      rw [List.replicate_succ]
      show ¬ (120 = c ∧ 120 = c)
      omega
theorem xx_len (n : Nat) : (XX (n : Int)).length = n := by
  rw [← len_list, show (XX (n : Int)).cps.toList = _ from xx_cd _]
  simp
end Mine
end

section
open PySem PySem.W PyProof.Rows PySem.Builtin PySem.Builtin.Str
namespace Mine
abbrev Trip (x : Str) (b : Bool) : Prop := ([Str.ofString "\"\"\"", Str.ofString "'''"].any fun y => y == Txt.slice x (some (-3)) none) = b
theorem item_last {x : Str} {Y : List Nat} {c : Nat} (h : cd x = Y ++ [c]) : Txt.item x (-1) = ⟨#[c]⟩ := by
  have hl : x.length = Y.length + 1 := by rw [← len_list, show x.cps.toList = _ from h]; simp
  have hn : x.cps[((-1 : Int) + x.length).toNat]? = some c := by
    have e : ((-1 : Int) + x.length).toNat = Y.length := by omega
    rw [e, ← Array.getElem?_toList, show x.cps.toList = _ from h]
    simp
  unfold Txt.item Txt.charAt
  rw [StrLaws.at_neg (by decide) (by omega) hn]
  rfl
theorem find_first {x : Str} {P Z : List Nat} {c : Nat} (h : cd x = P ++ c :: Z) (hP : c ∉ P) : Txt.find x ⟨#[c]⟩ = (P.length : Int) := by
  have atI : ∀ i, StrLaws.At x ⟨#[c]⟩ x.length i ↔ (cd x)[i]? = some c := fun i => StrLaws.subAt_one x c i
  have here : StrLaws.At x ⟨#[c]⟩ x.length P.length := (atI _).mpr (by rw [h]; simp)
  unfold Txt.find
  rcases StrLaws.occ_head x ⟨#[c]⟩ 1 (Nat.le_refl _) with ⟨_, hn⟩ | ⟨i, r, h0, ha, hn⟩
  · exact absurd here (hn _)
  · rw [h0]
    have hi : i = P.length := by
      rcases Nat.lt_trichotomy i P.length with hlt | e | hgt
      · exfalso
        have := (atI i).mp ha
        rw [h, List.getElem?_append_left hlt] at this
        exact hP (List.mem_of_getElem? this)
      · exact e
      · exact absurd here (hn _ hgt)
    subst hi
    rfl
theorem slice_to {x : Str} {A B : List Nat} {j : Int} (h : cd x = A ++ B) (hj : j = (A.length : Int)) : cd (Txt.slice x none (some j)) = A := by
  have hl : x.cps.toList.length = A.length + B.length := by rw [show x.cps.toList = _ from h]; simp
  have e : Txt.slice x none (some j) = _ := StrLaws.sliceText_to (x := x) (j := j) ⟨by omega, by omega⟩
  rw [e]
  show ((x.cps.toList.drop 0).take (j - 0).toNat) = A
  have e2 : (j - 0).toNat = A.length := by omega
  rw [e2, show x.cps.toList = _ from h, List.drop_zero, List.take_left]
theorem slice_from {x : Str} {A B : List Nat} {i : Int} (h : cd x = A ++ B) (hi : i = (A.length : Int)) : cd (Txt.slice x (some i) none) = B := by
  have hl : x.cps.toList.length = A.length + B.length := by rw [show x.cps.toList = _ from h]; simp
  have e : Txt.slice x (some i) none = _ := StrLaws.sliceText_from (x := x) (i := i) ⟨by omega, by omega⟩
  rw [e]
  show ((x.cps.toList.drop i.toNat).take ((x.cps.toList.length : Int) - i).toNat) = B
  have e2 : i.toNat = A.length := by omega
  have e3 : ((x.cps.toList.length : Int) - i).toNat = B.length := by omega
  rw [e3, e2, show x.cps.toList = _ from h, List.drop_left, List.take_length]
theorem slice_back {x : Str} {A : List Nat} {a b c : Nat} (h : cd x = A ++ [a, b, c]) : cd (Txt.slice x (some (-3)) none) = [a, b, c] := by
  have hl : x.cps.toList.length = A.length + 3 := by rw [show x.cps.toList = _ from h]; simp
  have hl' : x.length = A.length + 3 := by rw [← len_list, hl]
  have e : Txt.slice x (some (-3)) none = _ := StrLaws.sliceText_from_neg (x := x) (i := -3) (by decide) (by omega)
  rw [e]
  show ((x.cps.toList.drop ((-3 : Int) + x.length).toNat).take ((x.cps.toList.length : Int) - ((-3 : Int) + x.length)).toNat) = _
  have e2 : ((-3 : Int) + x.length).toNat = A.length := by omega
  have e3 : ((x.cps.toList.length : Int) - ((-3 : Int) + x.length)).toNat = 3 := by omega
  rw [e2, e3, show x.cps.toList = _ from h, List.drop_left]
  rfl
theorem trip_of {x : Str} {b : Bool} (h : Trip x b) : (cd (Txt.slice x (some (-3)) none) = [34, 34, 34] ∨ cd (Txt.slice x (some (-3)) none) = [39, 39, 39]) ↔ b = true := by
  have e1 : Str.ofString "\"\"\"" = ⟨#[34, 34, 34]⟩ := by decide +kernel
  have e2 : Str.ofString "'''" = ⟨#[39, 39, 39]⟩ := by decide +kernel
  have h' : ((Str.ofString "\"\"\"" == Txt.slice x (some (-3)) none) || (Str.ofString "'''" == Txt.slice x (some (-3)) none)) = b := by
    have := h
    simpa [Trip] using this
  generalize Txt.slice x (some (-3)) none = z at h'
  have k : ∀ l : List Nat, ((⟨l.toArray⟩ : Str) == z) = true ↔ cd z = l := fun l => by
    rw [beq_iff_eq]
    constructor
    · rintro rfl; rfl
    · intro e; exact str_ext (by rw [show z.cps.toList = l from e])
  rw [e1, e2] at h'
  rw [← k, ← k, ← h', Bool.or_eq_true]
theorem rep_last (c : Nat) {m : Nat} (hm : 1 ≤ m) : List.replicate m c = List.replicate (m - 1) c ++ [c] := by
  obtain ⟨k, rfl⟩ : ∃ k, m = k + 1 := ⟨m - 1, by omega⟩
  rw [List.replicate_succ']; rfl
theorem rep_first (c : Nat) {m : Nat} (hm : 1 ≤ m) : List.replicate m c = c :: List.replicate (m - 1) c := by
  obtain ⟨k, rfl⟩ : ∃ k, m = k + 1 := ⟨m - 1, by omega⟩
  rw [List.replicate_succ]; rfl
/-- one quote's sign: the last three are not three of it -/
theorem not_three {P I : List Nat} {c : Nat} (hP : c ∉ P) (hI : Qf c I) (J : List Nat) : P ++ [c] ++ I ++ [c] ≠ J ++ [c, c, c] := by
  intro h
  have hr := congrArg List.reverse h
  simp only [List.reverse_append, List.reverse_cons, List.reverse_nil, List.nil_append, List.cons_append, List.append_assoc] at hr
  unfold Qf at hI
  have hr' : I.reverse ++ c :: P.reverse = c :: c :: J.reverse := by simpa using hr
  cases hi : I.reverse with
  | nil =>
    rw [hi] at hr'
    have h2 : P.reverse = c :: J.reverse := by simpa using hr'
    exact hP (by rw [← List.mem_reverse, h2]; exact .head _)
  | cons a r =>
    rw [hi] at hr' hI
    cases r with
    | nil =>
      have : a = c := by
        have := congrArg List.head? hr'
        simpa using this
      exact hI this
    | cons b r =>
      have h2 : a = c ∧ b = c := by
        simp only [List.cons_append, List.cons.injEq] at hr'
        exact ⟨hr'.1, hr'.2.1⟩
      exact hI h2
theorem mute_plain {p q inn x : Str} {c m : Nat} (hp : ∀ d ∈ cd p, d ≠ 34 ∧ d ≠ 39) (hc : c = 34 ∨ c = 39) (hm : m = 1 ∨ m = 3) (hq : cd q = List.replicate m c) (hI : Qf c (cd inn)) (hx : x = p ++ q ++ inn ++ q) :
    Txt.find x (Txt.item x (-1)) = ((p.length : Nat) : Int) ∧
    (Trip x true → Txt.slice x none (some (Txt.find x (Txt.item x (-1)) + 1 + 2)) ++ XX ((x.length : Int) - 1 - 2 - (Txt.find x (Txt.item x (-1)) + 1 + 2)) ++ Txt.slice x (some ((x.length : Int) - 1 - 2)) none = p ++ q ++ XX (inn.length : Int) ++ q) ∧
    (Trip x false → Txt.slice x none (some (Txt.find x (Txt.item x (-1)) + 1)) ++ XX ((x.length : Int) - 1 - (Txt.find x (Txt.item x (-1)) + 1)) ++ Txt.slice x (some ((x.length : Int) - 1)) none = p ++ q ++ XX (inn.length : Int) ++ q) := by
  have hcd : cd x = cd p ++ cd q ++ cd inn ++ cd q := by rw [hx, cd_app, cd_app, cd_app]
  have hm1 : 1 ≤ m := by omega
  have hP : c ∉ cd p := fun h => by have := hp c h; omega
  have hlast : Txt.item x (-1) = ⟨#[c]⟩ := item_last (Y := cd p ++ cd q ++ cd inn ++ List.replicate (m - 1) c) (by
    rw [hcd, hq, rep_last c hm1]; simp)
  have hfind : Txt.find x ⟨#[c]⟩ = ((cd p).length : Int) := find_first (Z := List.replicate (m - 1) c ++ cd inn ++ cd q) (by
    rw [hcd]
    conv => lhs; rw [show cd p ++ cd q ++ cd inn ++ cd q = cd p ++ (cd q ++ (cd inn ++ cd q)) by simp]
    conv => lhs; arg 2; arg 1; rw [hq, rep_first c hm1]
    simp) hP
  have hlp : (cd p).length = p.length := len_list p
  have hli : (cd inn).length = inn.length := len_list inn
  have hlq : (cd q).length = m := by rw [hq]; simp
  have hlx : x.length = p.length + m + inn.length + m := by
    rw [← len_list, show x.cps.toList = _ from hcd]
    simp only [List.length_append, hlp, hli, hlq]
  rw [hlast, hfind]
  refine ⟨by rw [hlp], fun ht => ?_, fun ht => ?_⟩
  · rcases hm with rfl | rfl
    · exfalso
      have := (trip_of ht).mpr rfl
      have hq1 : cd q = [c] := by rw [hq]; rfl
      rw [hq1] at hcd
      by_cases h3 : 3 ≤ x.length
      · obtain ⟨A, a, b, d, hA⟩ : ∃ A a b d, cd x = A ++ [a, b, d] := by
          refine ⟨(cd x).take (x.length - 3), (cd x)[x.length - 3]'(by rw [len_list]; omega), (cd x)[x.length - 2]'(by rw [len_list]; omega), (cd x)[x.length - 1]'(by rw [len_list]; omega), ?_⟩
          have hd : (cd x).drop (x.length - 3) = [(cd x)[x.length - 3]'(by rw [len_list]; omega), (cd x)[x.length - 2]'(by rw [len_list]; omega), (cd x)[x.length - 1]'(by rw [len_list]; omega)] := by
            apply List.ext_getElem
            · simp only [List.length_drop, len_list, List.length_cons, List.length_nil]; omega
            · intro i h1 h2
              have hi : i = 0 ∨ i = 1 ∨ i = 2 := by simp at h2; omega
              rw [List.getElem_drop]
              rcases hi with rfl | rfl | rfl
              · rfl
              · simp only [List.getElem_cons_succ, List.getElem_cons_zero]
                congr 1; omega
              · simp only [List.getElem_cons_succ, List.getElem_cons_zero]
                congr 1; omega
          rw [← hd, List.take_append_drop]
        rw [slice_back hA] at this
        have hd : d = c := by
          have e1 : cd p ++ [c] ++ cd inn ++ [c] = (A ++ [a, b]) ++ [d] := by rw [← hcd, hA]; simp
          have e2 := List.append_inj_right' e1 rfl
          simpa using e2.symm
        have hall : a = c ∧ b = c := by
          subst hd
          rcases this with h | h <;> (simp only [List.cons.injEq, and_true] at h; omega)
        obtain ⟨rfl, rfl⟩ := hall
        subst hd
        exact not_three hP hI A (by rw [← hA, hcd])
      · have hle := Txt.slice_le x (some (-3)) none
        rw [← len_list] at hle
        rcases this with h | h
        · rw [show (Txt.slice x (some (-3)) none).cps.toList = _ from h] at hle
          simp at hle; omega
        · rw [show (Txt.slice x (some (-3)) none).cps.toList = _ from h] at hle
          simp at hle; omega
    · have e1 : cd (Txt.slice x none (some (((cd p).length : Int) + 1 + 2))) = cd p ++ cd q := slice_to (B := cd inn ++ cd q) (by rw [hcd]; simp) (by simp only [List.length_append, hlq]; omega)
      have e2 : cd (Txt.slice x (some ((x.length : Int) - 1 - 2)) none) = cd q := slice_from (A := cd p ++ cd q ++ cd inn) (by rw [hcd]) (by simp only [List.length_append, hlq, hlp, hli]; omega)
      have e3 : (x.length : Int) - 1 - 2 - (((cd p).length : Int) + 1 + 2) = (inn.length : Int) := by omega
      rw [e3]
      apply str_ext
      show cd _ = cd _
      rw [cd_app, cd_app, e1, e2, cd_app, cd_app, cd_app]
  · rcases hm with rfl | rfl
    · have e1 : cd (Txt.slice x none (some (((cd p).length : Int) + 1))) = cd p ++ cd q := slice_to (B := cd inn ++ cd q) (by rw [hcd]; simp) (by simp only [List.length_append, hlq]; omega)
      have e2 : cd (Txt.slice x (some ((x.length : Int) - 1)) none) = cd q := slice_from (A := cd p ++ cd q ++ cd inn) (by rw [hcd]) (by simp only [List.length_append, hlq, hlp, hli]; omega)
      have e3 : (x.length : Int) - 1 - (((cd p).length : Int) + 1) = (inn.length : Int) := by omega
      rw [e3]
      apply str_ext
      show cd _ = cd _
      rw [cd_app, cd_app, e1, e2, cd_app, cd_app, cd_app]
    · exfalso
      have h3 : cd (Txt.slice x (some (-3)) none) = [c, c, c] := slice_back (A := cd p ++ cd q ++ cd inn) (by rw [hcd]; conv => lhs; arg 2; rw [hq]
                                                                                                              rfl)
      have := (trip_of ht).mp (by rw [h3]; rcases hc with rfl | rfl <;> simp)
      cases this
end Mine
end

section
open PySem PySem.W PyProof.Rows
namespace Mine
set_option maxRecDepth 100000 in
set_option maxHeartbeats 8000000 in
open_top hd for PySem.Challenge.rw_bg5016_01
abbrev PG : Program := PySem.Challenge.rw_bg5016_01.row.toRowW.prog
end Mine
end

section
open PySem PySem.W PyProof.Rows
namespace Mine
local macro_rules | `(tactic| k_all) => `(tactic| assumption)
set_option maxRecDepth 100000 in
set_option maxHeartbeats 8000000 in
theorem next_claim (w : World) (mean : ExcName → Option Value) (mg mb : Str → Option Value)
    (dp un : Nat) (gd : Option (List Code)) (cn : Str) (cs : Scope) (a : Addr) (ccd : Value) (cl : List (Str × Addr)) (outer : List Env) (A₀ : Around) (base h₀ : Heap) (L : Addr) (m : Str → Option Value) (s : Shared) (Q E : Value → Shared → Prop)
    (st sl : Addr) (vs : List Value) (ns : List Int) (i x many : Int) (ti tx tm : Tok) (n n' : Nat) (rest : List (Addr × Obj))
    (B : Below A₀ base outer h₀) (F : Fr h₀ L s.heap m) (X : (hd.heap_39 w.params).In h₀) (N : News h₀ L s.heap ((st, listOf #[.ref sl, .int i ti, .int x tx] n) :: (sl, listOf vs.toArray n') :: rest))
    (T : Top hd.view_39 (looseW hd.view_39 []) mean mg mb h₀) (hk : cs.kind = .function) (hI : IntsAre vs ns) (hlen : ns.length ≤ 50) (hne : @Ne Nat st sl) (hrest : ∀ p ∈ rest, p.1 ≠ st)
    (hi0 : 0 ≤ i) (hi1 : i ≤ 50) (hx0 : 0 ≤ x) (hx1 : x < 2147483647) (hm0 : 1 ≤ many) (hm1 : many ≤ 20) (hdp : dp + 1 < recursionLimit) (hun : un + 8 < cLine)
    (hret : ∀ r i' x' t ti' tx' h' tk', 0 ≤ r → r < many → 0 ≤ i' → i' ≤ 50 → 0 ≤ x' → x' < 2147483647 → Fr h₀ L h' m → News h₀ L h' ((st, listOf #[.ref sl, .int i' ti', .int x' tx'] n) :: (sl, listOf vs.toArray n') :: rest) → Q (.int r t) { s with heap := h', toks := tk' }) :
    wpAny (model PG w) (ktrTop dp un gd cn cs L a ccd cl outer) (call (.ref 35) [.ref st, .int many tm]) Q E s := by
  unfold PG; revert X
  k_fill; intro X
  refine wpAny_call ?_
  k_dflt ktr_enter
  k_steps
  all_goals (
    refine hret _ _ _ _ _ _ _ _ ?_ ?_ ?_ ?_ ?_ ?_ (by assumption) (by assumption)
    · exact Int.fmod_nonneg_of_pos _ (by omega)
    · exact Int.fmod_lt_of_pos _ (by omega)
    · omega
    · omega
    · exact Int.fmod_nonneg_of_pos _ (by omega)
    · exact Int.fmod_lt_of_pos _ (by omega))

/-- the call of _law_next with the state's list anywhere on the ledger -/
theorem next_call {w : World} {mean : ExcName → Option Value} {mg mb : Str → Option Value}
    {dp un : Nat} {gd : Option (List Code)} {cn : Str} {cs : Scope} {a : Addr} {ccd : Value} {cl : List (Str × Addr)} {outer : List Env} {A₀ : Around} {base h₀ : Heap} {L : Addr} {m : Str → Option Value} {s : Shared} {Q E : Value → Shared → Prop}
    {st sl : Addr} {vs : List Value} {ns : List Int} {i x many : Int} {ti tx tm : Tok} {n n' : Nat} {news : List (Addr × Obj)} {g : Obj → List (Addr × Obj)}
    (B : Below A₀ base outer h₀) (F : Fr h₀ L s.heap m) (X : (hd.heap_39 w.params).In h₀) (N : News h₀ L s.heap news)
    (U : UpdF st (listOf #[.ref sl, .int i ti, .int x tx] n) news g) (hsl : (sl, listOf vs.toArray n') ∈ news)
    (T : Top hd.view_39 (looseW hd.view_39 []) mean mg mb h₀) (hk : cs.kind = .function) (hI : IntsAre vs ns) (hlen : ns.length ≤ 50) (hne : @Ne Nat st sl)
    (hi0 : 0 ≤ i) (hi1 : i ≤ 50) (hx0 : 0 ≤ x) (hx1 : x < 2147483647) (hm0 : 1 ≤ many) (hm1 : many ≤ 20) (hdp : dp + 1 < recursionLimit) (hun : un + 8 < cLine)
    (hret : ∀ r i' x' t ti' tx' h' tk', 0 ≤ r → r < many → 0 ≤ i' → i' ≤ 50 → 0 ≤ x' → x' < 2147483647 → Fr h₀ L h' m → News h₀ L h' (g (listOf #[.ref sl, .int i' ti', .int x' tx'] n)) → Q (.int r t) { s with heap := h', toks := tk' }) :
    wpAny (model PG w) (ktrTop dp un gd cn cs L a ccd cl outer) (call (.ref 35) [.ref st, .int many tm]) Q E s := by
  obtain ⟨pre, post, rfl, hg, h1, h2⟩ := U.split
  have hsl' : (sl, listOf vs.toArray n') ∈ pre ++ post := by
    rcases List.mem_append.mp hsl with h | h
    · exact List.mem_append_left _ h
    · rcases List.mem_cons.mp h with h | h
      · exact absurd (congrArg Prod.fst h).symm hne
      · exact List.mem_append_right _ h
  refine next_claim w mean mg mb dp un gd cn cs a ccd cl outer A₀ base h₀ L m s Q E st sl vs ns i x many ti tx tm n n' (pre ++ post) B F X ?_ T hk hI hlen hne ?_ hi0 hi1 hx0 hx1 hm0 hm1 hdp hun ?_
  · intro p hp
    refine N p ?_
    rcases List.mem_cons.mp hp with rfl | hp
    · exact List.mem_append_right _ (.head _)
    · rcases List.mem_cons.mp hp with rfl | hp
      · exact hsl
      · rcases List.mem_append.mp hp with hp | hp
        · exact List.mem_append_left _ hp
        · exact List.mem_append_right _ (.tail _ hp)
  · intro p hp
    rcases List.mem_append.mp hp with hp | hp
    · exact h1 p hp
    · exact h2 p hp
  · intro r i' x' t ti' tx' h' tk' a1 a2 a3 a4 a5 a6 F' N'
    refine hret r i' x' t ti' tx' h' tk' a1 a2 a3 a4 a5 a6 F' ?_
    rw [hg]
    intro p hp
    refine N' p ?_
    rcases List.mem_append.mp hp with hp | hp
    · exact .tail _ (.tail _ (List.mem_append_left _ hp))
    · rcases List.mem_cons.mp hp with rfl | hp
      · exact .head _
      · exact .tail _ (.tail _ (List.mem_append_right _ hp))
end Mine
end

section
open PySem PySem.W PyProof.Rows
namespace Mine
theorem widI_snoc (l : List Int) (c : Int) : widI (l ++ [c]) = if c = 32 then widI l + 1 else (widI l + 8) / 8 * 8 := by
  simp [widI, List.foldl_append]
theorem sg_iff {n k : Nat} {y : Str} (e : y = ⟨#[k]⟩) : ((({ cps := #[n] } : Str) == y) = true) ↔ n = k := by
  subst e
  rw [beq_iff_eq]
  constructor
  · intro h
    have := congrArg Str.cps h
    simpa using this
  · rintro rfl; rfl
theorem sp_is : Str.ofString " " = ⟨#[32]⟩ := by decide +kernel
theorem tb_is : Str.ofString "\t" = ⟨#[9]⟩ := by decide +kernel
theorem sg_sp {n : Nat} (h : (({ cps := #[n] } : Str) == Str.ofString " ") = true) : n = 32 := (sg_iff sp_is).mp h
theorem sg_tb {n : Nat} (h : (({ cps := #[n] } : Str) == Str.ofString "\t") = true) : n = 9 := (sg_iff tb_is).mp h
theorem sg_nsp {n : Nat} (h : (({ cps := #[n] } : Str) == Str.ofString " ") = false) : n ≠ 32 := fun e => by
  rw [(sg_iff sp_is).mpr e] at h; cases h
theorem sg_ntb {n : Nat} (h : (({ cps := #[n] } : Str) == Str.ofString "\t") = false) : n ≠ 9 := fun e => by
  rw [(sg_iff tb_is).mpr e] at h; cases h
theorem snoc_all {l : List Int} {c : Int} (h : ∀ c ∈ l, c = 32 ∨ c = 9) (hc : c = 32 ∨ c = 9) : ∀ x ∈ l ++ [c], x = 32 ∨ x = 9 := by
  intro x hx
  rcases List.mem_append.mp hx with hx | hx
  · exact h x hx
  · rw [List.mem_singleton.mp hx]; exact hc
theorem ww_sp {pre : List Int} {n : Nat} {k : Int} (h1 : k = widI pre) (h2 : 0 ≤ k) (h3 : k ≤ 8 * (pre.length : Int)) (h4 : ∀ c ∈ pre, c = 32 ∨ c = 9) (h : (({ cps := #[n] } : Str) == Str.ofString " ") = true) :
    k + 1 = widI (pre ++ [(n : Int)]) ∧ 0 ≤ k + 1 ∧ k + 1 ≤ 8 * ((pre ++ [(n : Int)]).length : Int) ∧ ∀ c ∈ pre ++ [(n : Int)], c = 32 ∨ c = 9 := by
  have e := sg_sp h
  subst e
  refine ⟨by rw [widI_snoc, h1]; rfl, by omega, by simp only [List.length_append, List.length_singleton]; omega, snoc_all h4 (.inl rfl)⟩
theorem ww_tb {pre : List Int} {n : Nat} {k j : Int} (h1 : k = widI pre) (h2 : 0 ≤ k) (h3 : k ≤ 8 * (pre.length : Int)) (h4 : ∀ c ∈ pre, c = 32 ∨ c = 9) (h : (({ cps := #[n] } : Str) == Str.ofString "\t") = true)
    (h5 : k + 1 ≤ j) (h6 : j ≤ (k + 1 + 7) / 8 * 8) (h7 : j.fmod 8 = 0) :
    j = widI (pre ++ [(n : Int)]) ∧ 0 ≤ j ∧ j ≤ 8 * ((pre ++ [(n : Int)]).length : Int) ∧ ∀ c ∈ pre ++ [(n : Int)], c = 32 ∨ c = 9 := by
  have e := sg_tb h
  subst e
  rw [Int.fmod_eq_emod_of_nonneg _ (by decide)] at h7
  refine ⟨?_, by omega, by simp only [List.length_append, List.length_singleton]; omega, snoc_all h4 (.inr rfl)⟩
  rw [widI_snoc, if_neg (by decide), ← h1]
  omega
theorem wk_step {x : Str} {n : Int} (h0 : 0 ≤ n) (hl : n < (x.length : Int)) (ha : ∀ j : Int, 0 ≤ j → j < n → Off WS (Txt.item x j) false) (hn : Off WS (Txt.item x n) false) :
    0 ≤ n + 1 ∧ n + 1 ≤ (x.length : Int) ∧ ∀ j : Int, 0 ≤ j → j < n + 1 → Off WS (Txt.item x j) false := by
  refine ⟨by omega, by omega, fun j h1 h2 => ?_⟩
  by_cases e : j = n
  · rw [e]; exact hn
  · exact ha j h1 (by omega)
theorem wt_step {a n : Int} (h1 : a ≤ n) (h2 : n ≤ (a + 7) / 8 * 8) (h3 : 0 ≤ a) (h4 : n.fmod 8 ≠ 0) : a ≤ n + 1 ∧ n + 1 ≤ (a + 7) / 8 * 8 ∧ 0 ≤ a := by
  rw [Int.fmod_eq_emod_of_nonneg _ (by decide)] at h4
  omega
theorem wt_meas {a n : Int} (h1 : a ≤ n) (h2 : n ≤ (a + 7) / 8 * 8) (h3 : 0 ≤ a) (h4 : n.fmod 8 ≠ 0) : ((a + 7) / 8 * 8 - (n + 1)).toNat < ((a + 7) / 8 * 8 - n).toNat := by
  rw [Int.fmod_eq_emod_of_nonneg _ (by decide)] at h4
  omega
set_option maxRecDepth 100000 in
set_option maxHeartbeats 8000000 in
theorem width_claim (w : World) (mean : ExcName → Option Value) (mg mb : Str → Option Value)
    (dp un : Nat) (gd : Option (List Code)) (cn : Str) (cs : Scope) (a : Addr) (ccd : Value) (cl : List (Str × Addr)) (outer : List Env) (A₀ : Around) (base h₀ : Heap) (L : Addr) (m : Str → Option Value) (s : Shared) (Q E : Value → Shared → Prop)
    (x : Str) (tx : Tok) (news : List (Addr × Obj)) (r : Int)
    (B : Below A₀ base outer h₀) (F : Fr h₀ L s.heap m) (X : (hd.heap_39 w.params).In h₀) (N : News h₀ L s.heap news)
    (T : Top hd.view_39 (looseW hd.view_39 []) mean mg mb h₀) (hk : cs.kind = .function) (hx1 : x.length ≤ 1000) (hdp : dp + 1 < recursionLimit) (hun : un + 8 < cLine)
    (hr1 : Off x (Str.ofString "\t") true → ∀ n : Int, 0 ≤ n → n ≤ (x.length : Int) → (∀ j : Int, 0 ≤ j → j < n → Off WS (Txt.item x j) false) → (n < (x.length : Int) → Off WS (Txt.item x n) true) → n = r)
    (hr2 : Off x (Str.ofString "\t") false → ∀ pre (n : Nat) post, KStt.codes x = pre ++ (n : Int) :: post → (∀ c ∈ pre, c = 32 ∨ c = 9) → n ≠ 32 → n ≠ 9 → widI pre = r)
    (hr3 : Off x (Str.ofString "\t") false → (∀ c ∈ KStt.codes x, c = 32 ∨ c = 9) → widI (KStt.codes x) = r)
    (hret : ∀ z t h' tk', z = r → Fr h₀ L h' m → News h₀ L h' news → Q (.int z t) { s with heap := h', toks := tk' }) :
    wpAny (model PG w) (ktrTop dp un gd cn cs L a ccd cl outer) (call (.ref 42) [.str x tx]) Q E s := by
  unfold PG; revert X
  k_fill; intro X
  k_with_none
  k_with "exec While BoolOp" => k_while (fun _ n => 0 ≤ n ∧ n ≤ (x.length : Int) ∧ ∀ j : Int, 0 ≤ j → j < n → Off WS (Txt.item x j) false) (fun _ n => x.length - n.toNat) "n"
  k_with "exec While Compare cons nil" => k_while_given ["n!"] (fun a _ n => a ≤ n ∧ n ≤ (a + 7) / 8 * 8 ∧ 0 ≤ a) (fun a _ n => ((a + 7) / 8 * 8 - n).toNat) "n"
  k_with "pyIter str" => k_state (fun pre n => n = widI pre ∧ 0 ≤ n ∧ n ≤ 8 * (pre.length : Int) ∧ ∀ c ∈ pre, c = 32 ∨ c = 9) "n"
  k_with "state" => exact wk_step (by assumption) (by assumption) (by assumption) (by assumption)
  k_with "state" => exact ww_sp (by assumption) (by assumption) (by assumption) (by assumption) (by assumption)
  k_with "state" => exact ww_tb (by assumption) (by assumption) (by assumption) (by assumption) (by assumption) (by assumption) (by assumption) (by assumption)
  k_with "state" => exact wt_step (by assumption) (by assumption) (by assumption) (by assumption)
  k_with "measure" => exact wt_meas (by assumption) (by assumption) (by assumption) (by assumption)
  refine wpAny_call ?_
  k_dflt ktr_enter
  k_steps
  all_goals (
    refine hret _ _ _ _ ?_ (by assumption) ?_
    first
      | exact hr1 (by assumption) _ (by assumption) (by assumption) (by assumption) (fun _ => by assumption)
      | exact hr1 (by assumption) _ (by assumption) (by assumption) (by assumption) (fun h => absurd h (by assumption))
      | exact Eq.trans (b := widI _) (by assumption) (hr2 (by assumption) _ _ _ (by assumption) (by assumption) (sg_nsp (by assumption)) (sg_ntb (by assumption)))
      | exact Eq.trans (b := widI _) (by assumption) (hr3 (by assumption) (by assumption))
    first
      | assumption
      | exact cb_drop (news' := news ++ _) (by assumption) (fun p hp => List.mem_append_left _ hp))
  k_with_none
end Mine
end

section
open PySem PySem.W PyProof.Rows
namespace Mine
theorem we_tb {pre : List Int} {n : Nat} {k : Int} (h1 : k = widI pre) (h2 : 0 ≤ k) (h3 : k ≤ 8 * (pre.length : Int)) (h4 : ∀ c ∈ pre, c = 32 ∨ c = 9) (h : (({ cps := #[n] } : Str) == Str.ofString "\t") = true) :
    k.fdiv 8 * 8 + 8 = widI (pre ++ [(n : Int)]) ∧ 0 ≤ k.fdiv 8 * 8 + 8 ∧ k.fdiv 8 * 8 + 8 ≤ 8 * ((pre ++ [(n : Int)]).length : Int) ∧ ∀ c ∈ pre ++ [(n : Int)], c = 32 ∨ c = 9 := by
  have e := sg_tb h
  subst e
  rw [Int.fdiv_eq_ediv_of_nonneg _ (by decide)]
  refine ⟨?_, by omega, by simp only [List.length_append, List.length_singleton]; omega, snoc_all h4 (.inr rfl)⟩
  rw [widI_snoc, if_neg (by decide), ← h1]
  omega
set_option maxRecDepth 100000 in
set_option maxHeartbeats 8000000 in
theorem expand_claim (w : World) (mean : ExcName → Option Value) (mg mb : Str → Option Value)
    (dp un : Nat) (gd : Option (List Code)) (cn : Str) (cs : Scope) (a : Addr) (ccd : Value) (cl : List (Str × Addr)) (outer : List Env) (A₀ : Around) (base h₀ : Heap) (L : Addr) (m : Str → Option Value) (s : Shared) (Q E : Value → Shared → Prop)
    (x : Str) (tx : Tok) (news : List (Addr × Obj)) (r : Int)
    (B : Below A₀ base outer h₀) (F : Fr h₀ L s.heap m) (X : (hd.heap_39 w.params).In h₀) (N : News h₀ L s.heap news)
    (T : Top hd.view_39 (looseW hd.view_39 []) mean mg mb h₀) (hk : cs.kind = .function) (hx1 : x.length ≤ 1000) (hdp : dp + 1 < recursionLimit) (hun : un + 8 < cLine)
    (hr1 : Off (RS x) (Str.ofString "\t") true → ((RS x).length : Int) - ((Txt.lstrip (RS x)).length : Int) = r)
    (hr2 : Off (RS x) (Str.ofString "\t") false → ∀ pre (n : Nat) post, KStt.codes (RS x) = pre ++ (n : Int) :: post → (∀ c ∈ pre, c = 32 ∨ c = 9) → n ≠ 32 → n ≠ 9 → widI pre = r)
    (hr3 : Off (RS x) (Str.ofString "\t") false → (∀ c ∈ KStt.codes (RS x), c = 32 ∨ c = 9) → widI (KStt.codes (RS x)) = r)
    (hret : ∀ z t h' tk', z = r → Fr h₀ L h' m → News h₀ L h' news → Q (.int z t) { s with heap := h', toks := tk' }) :
    wpAny (model PG w) (ktrTop dp un gd cn cs L a ccd cl outer) (call (.ref 21) [.str x tx]) Q E s := by
  unfold PG; revert X
  k_fill; intro X
  k_with_none
  k_with "pyIter str" => k_state (fun pre n => n = widI pre ∧ 0 ≤ n ∧ n ≤ 8 * (pre.length : Int) ∧ ∀ c ∈ pre, c = 32 ∨ c = 9) "result"
  k_with "state" => exact ww_sp (by assumption) (by assumption) (by assumption) (by assumption) (by assumption)
  k_with "state" => exact we_tb (by assumption) (by assumption) (by assumption) (by assumption) (by assumption)
  refine wpAny_call ?_
  k_dflt ktr_enter
  k_steps
  all_goals (
    refine hret _ _ _ _ ?_ (by assumption) ?_
    first
      | exact hr1 (by assumption)
      | exact Eq.trans (b := widI _) (by assumption) (hr2 (by assumption) _ _ _ (by assumption) (by assumption) (sg_nsp (by assumption)) (sg_ntb (by assumption)))
      | exact Eq.trans (b := widI _) (by assumption) (hr3 (by assumption) (by assumption))
    first
      | assumption
      | exact cb_drop (news' := news ++ _) (by assumption) (fun p hp => List.mem_append_left _ hp))
  k_with_none
end Mine
end

section
open PySem PySem.W PyProof.Rows
namespace Mine
set_option maxRecDepth 100000 in
set_option maxHeartbeats 8000000 in
theorem mute_claim (w : World) (mean : ExcName → Option Value) (mg mb : Str → Option Value)
    (dp un : Nat) (gd : Option (List Code)) (cn : Str) (cs : Scope) (a : Addr) (ccd : Value) (cl : List (Str × Addr)) (outer : List Env) (A₀ : Around) (base h₀ : Heap) (L : Addr) (m : Str → Option Value) (s : Shared) (Q E : Value → Shared → Prop)
    (x : Str) (tx : Tok) (news : List (Addr × Obj)) (y : Str)
    (B : Below A₀ base outer h₀) (F : Fr h₀ L s.heap m) (X : (hd.heap_39 w.params).In h₀) (N : News h₀ L s.heap news)
    (T : Top hd.view_39 (looseW hd.view_39 []) mean mg mb h₀) (hk : cs.kind = .function) (hx0 : 2 ≤ x.length) (hx1 : x.length ≤ 1000) (hdp : dp + 1 < recursionLimit) (hun : un + 8 < cLine)
    (k : Nat) (hf : Txt.find x (Txt.item x (-1)) = (k : Int)) (hkx : k ≤ x.length)
    (hr1 : Trip x true → Txt.slice x none (some (Txt.find x (Txt.item x (-1)) + 1 + 2)) ++ XX ((x.length : Int) - 1 - 2 - (Txt.find x (Txt.item x (-1)) + 1 + 2)) ++ Txt.slice x (some ((x.length : Int) - 1 - 2)) none = y)
    (hr2 : Trip x false → Txt.slice x none (some (Txt.find x (Txt.item x (-1)) + 1)) ++ XX ((x.length : Int) - 1 - (Txt.find x (Txt.item x (-1)) + 1)) ++ Txt.slice x (some ((x.length : Int) - 1)) none = y)
    (hret : ∀ z t h' tk', z = y → Fr h₀ L h' m → News h₀ L h' news → Q (.str z t) { s with heap := h', toks := tk' }) :
    wpAny (model PG w) (ktrTop dp un gd cn cs L a ccd cl outer) (call (.ref 28) [.str x tx]) Q E s := by
  unfold PG; revert X
  k_fill; intro X
  k_with_none
  refine wpAny_call ?_
  k_dflt ktr_enter
  k_steps
  all_goals first | (exfalso; omega) | skip
  all_goals (
    refine hret _ _ _ _ ?_ (by assumption) ?_
    first
      | exact hr1 (by assumption)
      | exact hr2 (by assumption)
    exact cb_drop (news' := _ :: news) (by assumption) (fun p hp => List.mem_cons_of_mem _ hp))
end Mine
end

section
open PySem PySem.W PyProof.Rows
namespace Mine
theorem quo_len {q : Str} (h : q ∈ quos) : 1 ≤ q.length ∧ q.length ≤ 3 := by
  simp only [List.mem_cons, List.not_mem_nil, or_false] at h
  rcases h with rfl | rfl | rfl | rfl <;> decide +kernel
theorem pre_len {q : Str} (h : q ∈ pres) : q.length ≤ 2 := (pre_free h).1
theorem end_len {q : Str} (h : q ∈ ends) : q.length ≤ 2 := by
  simp only [List.mem_cons, List.not_mem_nil, or_false] at h
  rcases h with rfl | rfl | rfl <;> decide +kernel
theorem expand_call {w : World} {mean : ExcName → Option Value} {mg mb : Str → Option Value}
    {dp un : Nat} {gd : Option (List Code)} {cn : Str} {cs : Scope} {a : Addr} {ccd : Value} {cl : List (Str × Addr)} {outer : List Env} {A₀ : Around} {base h₀ : Heap} {L : Addr} {m : Str → Option Value} {s : Shared} {Q E : Value → Shared → Prop}
    {bd en : Str} {tx : Tok} {news : List (Addr × Obj)}
    (B : Below A₀ base outer h₀) (F : Fr h₀ L s.heap m) (X : (hd.heap_39 w.params).In h₀) (N : News h₀ L s.heap news)
    (T : Top hd.view_39 (looseW hd.view_39 []) mean mg mb h₀) (hk : cs.kind = .function) (hdp : dp + 1 < recursionLimit) (hun : un + 8 < cLine) (hb : BodyOk bd) (he : en ∈ ends)
    (hret : ∀ t h' tk', Fr h₀ L h' m → News h₀ L h' news → Q (.int (widthF bd) t) { s with heap := h', toks := tk' }) :
    wpAny (model PG w) (ktrTop dp un gd cn cs L a ccd cl outer) (call (.ref 21) [.str (bd ++ en) tx]) Q E s :=
  expand_claim w mean mg mb dp un gd cn cs a ccd cl outer A₀ base h₀ L m s Q E (bd ++ en) tx news (widthF bd) B F X N T hk (by
      rw [Str.length_append]; have := hb.1; have := end_len he; omega) hdp hun
    (by rw [rs_body hb he]; exact expand_r1 hb) (by rw [rs_body hb he]; exact width_r2) (by rw [rs_body hb he]; exact width_r3)
    (fun z t h' tk' e F' N' => by rw [e]; exact hret t h' tk' F' N')
theorem width_call {w : World} {mean : ExcName → Option Value} {mg mb : Str → Option Value}
    {dp un : Nat} {gd : Option (List Code)} {cn : Str} {cs : Scope} {a : Addr} {ccd : Value} {cl : List (Str × Addr)} {outer : List Env} {A₀ : Around} {base h₀ : Heap} {L : Addr} {m : Str → Option Value} {s : Shared} {Q E : Value → Shared → Prop}
    {bd : Str} {tx : Tok} {news : List (Addr × Obj)}
    (B : Below A₀ base outer h₀) (F : Fr h₀ L s.heap m) (X : (hd.heap_39 w.params).In h₀) (N : News h₀ L s.heap news)
    (T : Top hd.view_39 (looseW hd.view_39 []) mean mg mb h₀) (hk : cs.kind = .function) (hdp : dp + 1 < recursionLimit) (hun : un + 8 < cLine) (hb : BodyOk bd)
    (hret : ∀ t h' tk', Fr h₀ L h' m → News h₀ L h' news → Q (.int (widthF bd) t) { s with heap := h', toks := tk' }) :
    wpAny (model PG w) (ktrTop dp un gd cn cs L a ccd cl outer) (call (.ref 42) [.str (bd) tx]) Q E s :=
  width_claim w mean mg mb dp un gd cn cs a ccd cl outer A₀ base h₀ L m s Q E bd tx news (widthF bd) B F X N T hk (by
      have := hb.1; omega) hdp hun width_r1 width_r2 width_r3
    (fun z t h' tk' e F' N' => by rw [e]; exact hret t h' tk' F' N')
theorem mute_callG {w : World} {mean : ExcName → Option Value} {mg mb : Str → Option Value}
    {dp un : Nat} {gd : Option (List Code)} {cn : Str} {cs : Scope} {a : Addr} {ccd : Value} {cl : List (Str × Addr)} {outer : List Env} {A₀ : Around} {base h₀ : Heap} {L : Addr} {m : Str → Option Value} {s : Shared} {Q E : Value → Shared → Prop}
    {p q inn : Str} {tx : Tok} {news : List (Addr × Obj)}
    (hp : p ∈ pres) (hq : q ∈ quos) (hI : ∃ c m : Nat, (c = 34 ∨ c = 39) ∧ (m = 1 ∨ m = 3) ∧ cd q = List.replicate m c ∧ Qf c (cd inn)) (hn : inn.length ≤ 16)
    (B : Below A₀ base outer h₀) (F : Fr h₀ L s.heap m) (X : (hd.heap_39 w.params).In h₀) (N : News h₀ L s.heap news)
    (T : Top hd.view_39 (looseW hd.view_39 []) mean mg mb h₀) (hk : cs.kind = .function) (hdp : dp + 1 < recursionLimit) (hun : un + 8 < cLine)  
    (hret : ∀ t h' tk', Fr h₀ L h' m → News h₀ L h' news → Q (.str (p ++ q ++ XX (inn.length : Int) ++ q) t) { s with heap := h', toks := tk' }) :
    wpAny (model PG w) (ktrTop dp un gd cn cs L a ccd cl outer) (call (.ref 28) [.str (p ++ q ++ inn ++ q) tx]) Q E s := by
  obtain ⟨c, m', hc, hm, hqc, hQ⟩ := hI
  obtain ⟨f1, f2, f3⟩ := mute_plain (x := p ++ q ++ inn ++ q) (pre_free hp).2 hc hm hqc hQ rfl
  have hl := (pre_free hp).1
  obtain ⟨hq1, hq3⟩ := quo_len hq
  have hlen : (p ++ q ++ inn ++ q).length = p.length + q.length + inn.length + q.length := by rw [Str.length_append, Str.length_append, Str.length_append]
  exact mute_claim w mean mg mb dp un gd cn cs a ccd cl outer A₀ base h₀ L m s Q E (p ++ q ++ inn ++ q) tx news (p ++ q ++ XX (inn.length : Int) ++ q) B F X N T hk (by omega) (by omega) hdp hun p.length f1 (by omega) f2 f3
    (fun z t h' tk' e F' N' => by rw [e]; exact hret t h' tk' F' N')
theorem mute_call1 {w : World} {mean : ExcName → Option Value} {mg mb : Str → Option Value}
    {dp un : Nat} {gd : Option (List Code)} {cn : Str} {cs : Scope} {a : Addr} {ccd : Value} {cl : List (Str × Addr)} {outer : List Env} {A₀ : Around} {base h₀ : Heap} {L : Addr} {m : Str → Option Value} {s : Shared} {Q E : Value → Shared → Prop}
    {p q inn : Str} {tx : Tok} {news : List (Addr × Obj)}
    (B : Below A₀ base outer h₀) (F : Fr h₀ L s.heap m) (X : (hd.heap_39 w.params).In h₀) (N : News h₀ L s.heap news)
    (T : Top hd.view_39 (looseW hd.view_39 []) mean mg mb h₀) (hk : cs.kind = .function) (hdp : dp + 1 < recursionLimit) (hun : un + 8 < cLine) (hp : p ∈ pres) (hq : q ∈ quos) (hi : InnOk q inn)
    (hret : ∀ t h' tk', Fr h₀ L h' m → News h₀ L h' news → Q (.str (p ++ q ++ XX (inn.length : Int) ++ q) t) { s with heap := h', toks := tk' }) :
    wpAny (model PG w) (ktrTop dp un gd cn cs L a ccd cl outer) (call (.ref 28) [.str (p ++ q ++ inn ++ q) tx]) Q E s :=
  mute_callG hp hq (by obtain ⟨c, m, hc, hm, hqc, h0⟩ := quo_is hq; exact ⟨c, m, hc, hm, hqc, inn_qf h0 hc hi⟩) (inn_len hi) B F X N T hk hdp hun hret
theorem mute_call2 {w : World} {mean : ExcName → Option Value} {mg mb : Str → Option Value}
    {dp un : Nat} {gd : Option (List Code)} {cn : Str} {cs : Scope} {a : Addr} {ccd : Value} {cl : List (Str × Addr)} {outer : List Env} {A₀ : Around} {base h₀ : Heap} {L : Addr} {m : Str → Option Value} {s : Shared} {Q E : Value → Shared → Prop}
    {p q : Str} {n : Nat} {tx : Tok} {news : List (Addr × Obj)}
    (B : Below A₀ base outer h₀) (F : Fr h₀ L s.heap m) (X : (hd.heap_39 w.params).In h₀) (N : News h₀ L s.heap news)
    (T : Top hd.view_39 (looseW hd.view_39 []) mean mg mb h₀) (hk : cs.kind = .function) (hdp : dp + 1 < recursionLimit) (hun : un + 8 < cLine) (hp : p ∈ pres) (hq : q ∈ quos) (hn : n ≤ 16)
    (hret : ∀ t h' tk', Fr h₀ L h' m → News h₀ L h' news → Q (.str (p ++ q ++ XX (n : Int) ++ q) t) { s with heap := h', toks := tk' }) :
    wpAny (model PG w) (ktrTop dp un gd cn cs L a ccd cl outer) (call (.ref 28) [.str (p ++ q ++ XX (n : Int) ++ q) tx]) Q E s :=
  by
  refine mute_callG (inn := XX (n : Int)) hp hq (by obtain ⟨c, m, hc, hm, hqc, h0⟩ := quo_is hq; exact ⟨c, m, hc, hm, hqc, xx_qf c hc _⟩) (by rw [xx_len]; exact hn) B F X N T hk hdp hun ?_
  rw [xx_len]
  exact hret
theorem mute_last {w : World} {mean : ExcName → Option Value} {mg mb : Str → Option Value}
    {dp un : Nat} {gd : Option (List Code)} {cn : Str} {cs : Scope} {a : Addr} {ccd : Value} {cl : List (Str × Addr)} {outer : List Env} {A₀ : Around} {base h₀ : Heap} {L : Addr} {m : Str → Option Value} {s : Shared} {Q E : Value → Shared → Prop}
    {tx : Tok} {news : List (Addr × Obj)}
    (B : Below A₀ base outer h₀) (F : Fr h₀ L s.heap m) (X : (hd.heap_39 w.params).In h₀) (N : News h₀ L s.heap news)
    (T : Top hd.view_39 (looseW hd.view_39 []) mean mg mb h₀) (hk : cs.kind = .function) (hdp : dp + 1 < recursionLimit) (hun : un + 8 < cLine) 
    (hret : ∀ t h' tk', Fr h₀ L h' m → News h₀ L h' news → Q (.str (Str.ofString "\"\"") t) { s with heap := h', toks := tk' }) :
    wpAny (model PG w) (ktrTop dp un gd cn cs L a ccd cl outer) (call (.ref 28) [.str (Str.ofString "\"\"") tx]) Q E s :=
  mute_claim w mean mg mb dp un gd cn cs a ccd cl outer A₀ base h₀ L m s Q E (Str.ofString "\"\"") tx news (Str.ofString "\"\"") B F X N T hk (by decide +kernel) (by decide +kernel) hdp hun 0 (by decide +kernel) (Nat.zero_le _)
    (fun h => absurd h (by decide +kernel)) (fun _ => by decide +kernel)
    (fun z t h' tk' e F' N' => by rw [e]; exact hret t h' tk' F' N')
theorem expand_last {w : World} {mean : ExcName → Option Value} {mg mb : Str → Option Value}
    {dp un : Nat} {gd : Option (List Code)} {cn : Str} {cs : Scope} {a : Addr} {ccd : Value} {cl : List (Str × Addr)} {outer : List Env} {A₀ : Around} {base h₀ : Heap} {L : Addr} {m : Str → Option Value} {s : Shared} {Q E : Value → Shared → Prop}
    {tx : Tok} {news : List (Addr × Obj)}
    (B : Below A₀ base outer h₀) (F : Fr h₀ L s.heap m) (X : (hd.heap_39 w.params).In h₀) (N : News h₀ L s.heap news)
    (T : Top hd.view_39 (looseW hd.view_39 []) mean mg mb h₀) (hk : cs.kind = .function) (hdp : dp + 1 < recursionLimit) (hun : un + 8 < cLine) 
    (hret : ∀ t h' tk', Fr h₀ L h' m → News h₀ L h' news → Q (.int 16 t) { s with heap := h', toks := tk' }) :
    wpAny (model PG w) (ktrTop dp un gd cn cs L a ccd cl outer) (call (.ref 21) [.str (Str.ofString "\t \tb") tx]) Q E s :=
  expand_claim w mean mg mb dp un gd cn cs a ccd cl outer A₀ base h₀ L m s Q E (Str.ofString "\t \tb") tx news 16 B F X N T hk (by decide +kernel) hdp hun
    (fun h => absurd h (by decide +kernel))
    (fun _ pre n post e h h1 h2 => by rw [width_r2' pre n post e h h1 h2]; decide +kernel)
    (fun _ h => by rw [width_r3' h]; decide +kernel)
    (fun z t h' tk' e F' N' => by rw [e]; exact hret t h' tk' F' N')
end Mine
end

section
open PySem PySem.W PyProof.Rows
namespace Mine
/-- between the turns: the bounds of the state's two ints -/
structure Bd (i y : Int) : Prop where
  i0 : 0 ≤ i
  i1 : i ≤ 50
  y0 : 0 ≤ y
  y1 : y < 2147483647
abbrev stO (sl : Addr) (i : Int) (ti : Tok) (y : Int) (ty : Tok) : Obj := listOf #[.ref sl, .int i ti, .int y ty] 0
/-- what stands of the ledger in a turn: the state's list at st, the script's part at sl, the cells of other (co), quote (cq), state (cs) -/
structure Mk (st sl : Addr) (vs : List Value) (ns : List Int) (co cq cs : Addr) (os : Obj) (own : List (Addr × Obj)) : Prop where
  hin : IntsAre vs ns
  hle : ns.length ≤ 50
  n1 : @Ne Nat st sl
  n2 : @Ne Nat st co
  n3 : @Ne Nat st cq
  n4 : @Ne Nat st cs
  n5 : @Ne Nat sl co
  n6 : @Ne Nat sl cq
  n7 : @Ne Nat co cq
  n8 : @Ne Nat co cs
  n9 : @Ne Nat cq cs
  w1 : ∀ p ∈ own, p.1 ≠ st
  w2 : ∀ p ∈ own, p.1 ≠ co
  w3 : ∀ p ∈ own, p.1 ≠ cq
  sd : os.data = .cell (some (.ref st))
section
variable {prog : Program} {w : World} {A : Around} {E : Value → Shared → Prop} {s : Shared} {env : Env} {h₀ : Heap} {x : Str} {body : List Stmt} {Q : Flow → Shared → Prop}
theorem loopR {σ : Type} {r : Addr} {b₀ : Int} {t₀ u₀ v₀ : Tok} {n : Nat} {m₀ : Str → Option Value} (Led : σ → List (Addr × Obj)) (Facts : σ → Prop) (c₀ : σ)
    (hh : A.handled = none) (hr : IsRange s.heap r 0 b₀ 1 t₀ u₀ v₀) (hsmall : Builtin.Range.small 0 b₀ 1 = true) (hn : Builtin.Range.rangeSize 0 b₀ 1 = (n : Int)) (F : Fr h₀ env.locals s.heap m₀) (N : News h₀ env.locals s.heap (Led c₀)) (hf : Facts c₀)
    (turn : ∀ (c : σ) (k : Int) t (m₁ : Str → Option Value) h tk own, OwnOff own ((Led c₀).map (·.1)) → Facts c →
      Fr h₀ env.locals h (fun y => if y = x then some (.int k t) else m₁ y) → News h₀ env.locals h (Led c ++ own) →
      wpAny (model prog w) A (execs body env) (InvPostN h₀ env.locals (fun _ nx => ∃ c, nx = Led c ∧ Facts c) own ((Led c₀).map (·.1)) { s with heap := h, toks := tk } Q) E { s with heap := h, toks := tk })
    (done : ∀ (c : σ) (m₁ : Str → Option Value) h tk, Facts c → Fr h₀ env.locals h m₁ → News h₀ env.locals h (Led c) → Q .next { s with heap := h, toks := tk }) :
    wpAny (model prog w) A (pyIter (.ref r)) (fun it s₂ => LoopAtV prog w A h₀ env x body Q E it s₂) E s := by
  have out : ∀ b : Addr, b < s.heap.objs.size → b ∉ [s.heap.objs.size] := fun b hb hm => Nat.ne_of_lt hb (List.mem_singleton.mp hm)
  have old : ∀ p ∈ Led c₀, p.1 ∉ [s.heap.objs.size] := fun p hp => out p.1 (Heap.lt_size (N.get hp))
  have W := (Walks.range (prog := prog) (w := w) hh s.heap.objs.size 0 1 n).bound
  refine wpAny_pyIter_range hr hsmall (loop_invN (fun _ _ nx => ∃ c, nx = Led c ∧ Facts c) W (out _ F.ns.lt) (fun b hb => (List.mem_singleton.mp hb).symm ▸ next_is_new F) old old ?_ (F.push _) (N.grown fun b o e => Heap.get?_push_of_some _ e) ⟨c₀, rfl, hf⟩ ?_ ?_)
  · show IsRangeIter _ _ _ _ _
    rw [hn]
    simpa using Heap.get?_push_size _ rfl
  · rintro i v m₁ nx h tk own hi ⟨_, t, rfl⟩ _ hoff ⟨c, rfl, hf'⟩ F₁ N₁
    exact turn c _ t m₁ h tk own hoff hf' F₁ N₁
  · rintro m₁ nx h tk ⟨c, rfl, hf'⟩ F₁ N₁
    exact done c m₁ h tk hf' F₁ N₁

/-- the first loop -/
theorem loop1 {r : Addr} {t₀ u₀ v₀ : Tok} {m₀ : Str → Option Value} {st sl co cq cs : Addr} {vs : List Value} {ns : List Int} {oo oq os : Obj} {i₀ y₀ : Int} {ti₀ ty₀ : Tok}
    (hh : A.handled = none) (hr : IsRange s.heap r 0 3 1 t₀ u₀ v₀) (F : Fr h₀ env.locals s.heap m₀)
    (N : News h₀ env.locals s.heap [(st, stO sl i₀ ti₀ y₀ ty₀), (sl, listOf vs.toArray 0), (co, oo), (cq, oq), (cs, os)])
    (hsd : os.data = .cell (some (.ref st))) (hI : IntsAre vs ns) (hl : ns.length ≤ 50) (hb : Bd i₀ y₀)
    (hne : (@Ne Nat st sl ∧ @Ne Nat st co ∧ @Ne Nat st cq ∧ @Ne Nat st cs) ∧ (@Ne Nat sl co ∧ @Ne Nat sl cq) ∧ @Ne Nat co cq ∧ @Ne Nat co cs ∧ @Ne Nat cq cs)
    (turn : ∀ i ti y ty (k : Int) t (m₁ : Str → Option Value) h tk own, Mk st sl vs ns co cq cs os own → 0 ≤ i → i ≤ 50 → 0 ≤ y → y < 2147483647 →
      Fr h₀ env.locals h (fun y => if y = x then some (.int k t) else m₁ y) → News h₀ env.locals h ((st, stO sl i ti y ty) :: (sl, listOf vs.toArray 0) :: (co, oo) :: (cq, oq) :: (cs, os) :: own) →
      wpAny (model prog w) A (execs body env) (InvPostN h₀ env.locals (fun _ nx => ∃ c : Int × Tok × Int × Tok, nx = [(st, stO sl c.1 c.2.1 c.2.2.1 c.2.2.2), (sl, listOf vs.toArray 0), (co, oo), (cq, oq), (cs, os)] ∧ Bd c.1 c.2.2.1) own [st, sl, co, cq, cs] { s with heap := h, toks := tk } Q) E { s with heap := h, toks := tk })
    (done : ∀ i ti y ty (m₁ : Str → Option Value) h tk, Bd i y → Fr h₀ env.locals h m₁ → News h₀ env.locals h [(st, stO sl i ti y ty), (sl, listOf vs.toArray 0), (co, oo), (cq, oq), (cs, os)] → Q .next { s with heap := h, toks := tk }) :
    wpAny (model prog w) A (pyIter (.ref r)) (fun it s₂ => LoopAtV prog w A h₀ env x body Q E it s₂) E s := by
  refine loopR (σ := Int × Tok × Int × Tok) (n := 3) (fun c => [(st, stO sl c.1 c.2.1 c.2.2.1 c.2.2.2), (sl, listOf vs.toArray 0), (co, oo), (cq, oq), (cs, os)]) (fun c => Bd c.1 c.2.2.1) (i₀, ti₀, y₀, ty₀) hh hr (by decide) (by decide) F N hb ?_ ?_
  · intro c k t m₁ h tk own hoff hf F₁ N₁
    obtain ⟨⟨a1, a2, a3, a4⟩, ⟨a5, a6⟩, a7, a8, a9⟩ := hne
    exact turn _ _ _ _ k t m₁ h tk own ⟨hI, hl, a1, a2, a3, a4, a5, a6, a7, a8, a9, hoff.ne (.head _), hoff.ne (.tail _ (.tail _ (.head _))), hoff.ne (.tail _ (.tail _ (.tail _ (.head _)))), hsd⟩ hf.i0 hf.i1 hf.y0 hf.y1 F₁ N₁
  · intro c m₁ h tk hf F₁ N₁
    exact done _ _ _ _ m₁ h tk hf F₁ N₁
theorem end1 {st sl co cq cs : Addr} {vs : List Value} {ns : List Int} {oo oq os : Obj} {L : Addr} {own all : List (Addr × Obj)} {s₁ : Shared} {h' : Heap} {tk : Nat} {m' : Str → Option Value} {i y : Int} {ti ty : Tok}
    (M : Mk st sl vs ns co cq cs os own) (F : Fr h₀ L h' m') (N : News h₀ L h' all) (m1 : (st, stO sl i ti y ty) ∈ all) (m2 : (sl, listOf vs.toArray 0) ∈ all) (m3 : (co, oo) ∈ all) (m4 : (cq, oq) ∈ all) (m5 : (cs, os) ∈ all) (m6 : ∀ p ∈ own, p ∈ all)
    (b0 : 0 ≤ i) (b1 : i ≤ 50) (b2 : 0 ≤ y) (b3 : y < 2147483647) :
    InvEndN h₀ L (fun _ nx => ∃ c : Int × Tok × Int × Tok, nx = [(st, stO sl c.1 c.2.1 c.2.2.1 c.2.2.2), (sl, listOf vs.toArray 0), (co, oo), (cq, oq), (cs, os)] ∧ Bd c.1 c.2.2.1) own [st, sl, co, cq, cs] s₁ { s₁ with heap := h', toks := tk } :=
  InvEndN.intro F N ⟨(i, ti, y, ty), rfl, b0, b1, b2, b3⟩ rfl (fun p hp => by
    simp only [List.mem_cons, List.not_mem_nil, or_false] at hp
    rcases hp with rfl | rfl | rfl | rfl | rfl <;> assumption) m6

/-- the second loop: the cells of other and quote turn -/
abbrev Led2 (st sl : Addr) (vs : List Value) (co cq cs : Addr) (os : Obj) (c : Int × Tok × Int × Tok × Obj × Obj) : List (Addr × Obj) := [(st, stO sl c.1 c.2.1 c.2.2.1 c.2.2.2.1), (sl, listOf vs.toArray 0), (co, c.2.2.2.2.1), (cq, c.2.2.2.2.2), (cs, os)]
abbrev Fac2 (c : Int × Tok × Int × Tok × Obj × Obj) : Prop := Bd c.1 c.2.2.1 ∧ (∃ v, c.2.2.2.2.1.data = .cell v) ∧ (∃ v, c.2.2.2.2.2.data = .cell v)
theorem loop2 {r : Addr} {t₀ u₀ v₀ : Tok} {m₀ : Str → Option Value} {st sl co cq cs : Addr} {vs : List Value} {ns : List Int} {oo oq os : Obj} {v1 v2 : Option Value} {i₀ y₀ : Int} {ti₀ ty₀ : Tok}
    (hh : A.handled = none) (hr : IsRange s.heap r 0 4 1 t₀ u₀ v₀) (F : Fr h₀ env.locals s.heap m₀)
    (N : News h₀ env.locals s.heap [(st, stO sl i₀ ti₀ y₀ ty₀), (sl, listOf vs.toArray 0), (co, oo), (cq, oq), (cs, os)])
    (hsd : os.data = .cell (some (.ref st))) (h1 : oo.data = .cell v1) (h2 : oq.data = .cell v2) (hI : IntsAre vs ns) (hl : ns.length ≤ 50) (hb : Bd i₀ y₀)
    (hne : (@Ne Nat st sl ∧ @Ne Nat st co ∧ @Ne Nat st cq ∧ @Ne Nat st cs) ∧ (@Ne Nat sl co ∧ @Ne Nat sl cq) ∧ @Ne Nat co cq ∧ @Ne Nat co cs ∧ @Ne Nat cq cs)
    (turn : ∀ i ti y ty oo oq v1 v2 (k : Int) t (m₁ : Str → Option Value) h tk own, Mk st sl vs ns co cq cs os own → 0 ≤ i → i ≤ 50 → 0 ≤ y → y < 2147483647 → oo.data = .cell v1 → oq.data = .cell v2 →
      Fr h₀ env.locals h (fun y => if y = x then some (.int k t) else m₁ y) → News h₀ env.locals h ((st, stO sl i ti y ty) :: (sl, listOf vs.toArray 0) :: (co, oo) :: (cq, oq) :: (cs, os) :: own) →
      wpAny (model prog w) A (execs body env) (InvPostN h₀ env.locals (fun _ nx => ∃ c, nx = Led2 st sl vs co cq cs os c ∧ Fac2 c) own [st, sl, co, cq, cs] { s with heap := h, toks := tk } Q) E { s with heap := h, toks := tk })
    (done : ∀ (m₁ : Str → Option Value) h tk, Fr h₀ env.locals h m₁ → News h₀ env.locals h [] → Q .next { s with heap := h, toks := tk }) :
    wpAny (model prog w) A (pyIter (.ref r)) (fun it s₂ => LoopAtV prog w A h₀ env x body Q E it s₂) E s := by
  refine loopR (n := 4) (Led2 st sl vs co cq cs os) Fac2 (i₀, ti₀, y₀, ty₀, oo, oq) hh hr (by decide) (by decide) F N ⟨hb, ⟨v1, h1⟩, ⟨v2, h2⟩⟩ ?_ ?_
  · intro c k t m₁ h tk own hoff hf F₁ N₁
    obtain ⟨⟨a1, a2, a3, a4⟩, ⟨a5, a6⟩, a7, a8, a9⟩ := hne
    obtain ⟨hf, ⟨w1, e1⟩, ⟨w2, e2⟩⟩ := hf
    exact turn _ _ _ _ _ _ w1 w2 k t m₁ h tk own ⟨hI, hl, a1, a2, a3, a4, a5, a6, a7, a8, a9, hoff.ne (.head _), hoff.ne (.tail _ (.tail _ (.head _))), hoff.ne (.tail _ (.tail _ (.tail _ (.head _)))), hsd⟩ hf.i0 hf.i1 hf.y0 hf.y1 e1 e2 F₁ N₁
  · intro c m₁ h tk hf F₁ N₁
    exact done m₁ h tk F₁ fun _ hp => nomatch hp
theorem end2 {st sl co cq cs : Addr} {vs : List Value} {ns : List Int} {oo oq os : Obj} {v1 v2 : Option Value} {L : Addr} {own all : List (Addr × Obj)} {s₁ : Shared} {h' : Heap} {tk : Nat} {m' : Str → Option Value} {i y : Int} {ti ty : Tok}
    (M : Mk st sl vs ns co cq cs os own) (F : Fr h₀ L h' m') (N : News h₀ L h' all) (m1 : (st, stO sl i ti y ty) ∈ all) (m2 : (sl, listOf vs.toArray 0) ∈ all) (m3 : (co, oo) ∈ all) (m4 : (cq, oq) ∈ all) (m5 : (cs, os) ∈ all) (m6 : ∀ p ∈ own, p ∈ all)
    (b0 : 0 ≤ i) (b1 : i ≤ 50) (b2 : 0 ≤ y) (b3 : y < 2147483647) (e1 : oo.data = .cell v1) (e2 : oq.data = .cell v2) :
    InvEndN h₀ L (fun _ nx => ∃ c, nx = Led2 st sl vs co cq cs os c ∧ Fac2 c) own [st, sl, co, cq, cs] s₁ { s₁ with heap := h', toks := tk } :=
  InvEndN.intro F N ⟨(i, ti, y, ty, oo, oq), rfl, ⟨b0, b1, b2, b3⟩, ⟨v1, e1⟩, ⟨v2, e2⟩⟩ rfl (fun p hp => by
    simp only [List.mem_cons, List.not_mem_nil, or_false] at hp
    rcases hp with rfl | rfl | rfl | rfl | rfl <;> assumption) m6
end

section
variable {prog : Program} {w : World} {A : Around} {h₀ : Heap} {L : Addr} {m : Str → Option Value} {env : Env} {elt : Expr} {x : Str} {scope : Scope} {cl : List (Str × Addr)} {s : Shared}
def CsRest (G : Str → Prop) (st sl : Addr) (rest : List (Addr × Obj)) (v : Value) (news' : List (Addr × Obj)) : Prop :=
  (∃ i ti y ty, news' = (st, stO sl i ti y ty) :: rest ∧ Bd i y) ∧ ∃ g t, v = .str g t ∧ G g
theorem comp_st {P : Nat → Value → Prop} {Fin : List Value → List (Addr × Obj) → Prop} {n : Nat} {st sl : Addr} {rest : List (Addr × Obj)} (G : Str → Prop)
    (turn : ∀ i ti y ty ys v I oI C oC D m₂ h tk (E' : Value → Shared → Prop), 0 ≤ i → i ≤ 50 → 0 ≤ y → y < 2147483647 → LCg.NsObj oC m₂ → m₂ x = some v → Fr h₀ L h m → News h₀ L h ((I, oI) :: (C, oC) :: (D, LCg.lst ys) :: (st, stO sl i ti y ty) :: rest) →
      @Ne Nat I st → @Ne Nat C st → @Ne Nat D st → LCg.Off3 I C D rest → @Ne Nat I C → @Ne Nat I D → @Ne Nat C D →
      wpAny (model prog w) A (eval elt (compEnvC scope cl C env)) (LCg.CompEnd h₀ L m { s with heap := h, toks := tk } I oI C oC D (LCg.lst ys) (fun _ => True) (CsRest G st sl rest)) E' { s with heap := h, toks := tk })
    (fin : ∀ i ti y ty ys ws, 0 ≤ i → i ≤ 50 → 0 ≤ y → y < 2147483647 → ws.length = n → StrsAre ys ws → (∀ w ∈ ws, G w) → Fin ys ((st, stO sl i ti y ty) :: rest)) :
    ∀ (k j : Nat) (ys : List Value) (ws : List Str) (i : Int) (ti : Tok) (y : Int) (ty : Tok), j + k = n → ws.length = j → StrsAre ys ws → (∀ w ∈ ws, G w) → Bd i y →
      LCg.CompRest prog w A h₀ L m env elt x scope cl s (fun _ => True) P Fin k j ys ((st, stO sl i ti y ty) :: rest) := by
  intro k
  induction k with
  | zero =>
    intro j ys ws i ti y ty hj hw hs hG hb
    exact LCg.CompRest.zero (fin i ti y ty ys ws hb.i0 hb.i1 hb.y0 hb.y1 (by omega) hs hG)
  | succ k ih =>
    intro j ys ws i ti y ty hj hw hs hG hb
    refine LCg.CompRest.succ ?_
    intro v I oI C oC D m₂ h tk E' _ hC hx F N off ne
    obtain ⟨⟨o1, o2, o3⟩, off'⟩ := off
    refine wpAny_mono (turn i ti y ty ys v I oI C oC D m₂ h tk E' hb.i0 hb.i1 hb.y0 hb.y1 hC hx F N (Ne.symm o1) (Ne.symm o2) (Ne.symm o3) off' ne.1 ne.2.1 ne.2.2) (fun r s₂ hq => ?_) fun _ _ e => e
    obtain ⟨h', tk', nw, e, F', N', off2, hS, ⟨i', ti', y', ty', rfl, hb'⟩, g, t, rfl, hg⟩ := hq
    refine ⟨h', tk', _, e, F', N', off2, hS, ih (j + 1) _ (ws ++ [g]) i' ti' y' ty' (by omega) (by simp [hw]) (hs.append' (.cons _ _ .nil)) ?_ hb'⟩
    intro z hz
    rcases List.mem_append.mp hz with hz | hz
    · exact hG z hz
    · rw [List.mem_singleton.mp hz]; exact hg

theorem compSrc_st {Fin : Shared → List Value → List (Addr × Obj) → Prop} {r : Addr} {b : Int} {t u v : Tok} {s₁ : Shared} {st sl : Addr} {vs : List Value} {ns : List Int} {co cq cs : Addr} {oo oq os : Obj} {own all : List (Addr × Obj)} {i₀ y₀ : Int} {ti₀ ty₀ : Tok} (G : Str → Prop)
    (M : Mk st sl vs ns co cq cs os own) (hh : A.handled = none) (F : Fr h₀ L s₁.heap m) (N : News h₀ L s₁.heap all) (m1 : (st, stO sl i₀ ti₀ y₀ ty₀) ∈ all) (m2 : (sl, listOf vs.toArray 0) ∈ all) (m3 : (co, oo) ∈ all) (m4 : (cq, oq) ∈ all) (m5 : (cs, os) ∈ all) (m6 : ∀ p ∈ own, p ∈ all)
    (hr : IsRange s₁.heap r 0 b 1 t u v) (b0 : 0 ≤ b) (b1 : b ≤ 19) (i0 : 0 ≤ i₀) (i1 : i₀ ≤ 50) (y0 : 0 ≤ y₀) (y1 : y₀ < 2147483647)
    (turn : ∀ (H : Heap) i ti y ty ys v I oI C oC D m₂ h tk (E' : Value → Shared → Prop), 0 ≤ i → i ≤ 50 → 0 ≤ y → y < 2147483647 → LCg.NsObj oC m₂ → m₂ x = some v → Fr h₀ L h m → News h₀ L h ((I, oI) :: (C, oC) :: (D, LCg.lst ys) :: (st, stO sl i ti y ty) :: (sl, listOf vs.toArray 0) :: (co, oo) :: (cq, oq) :: (cs, os) :: own) →
      @Ne Nat I st → @Ne Nat C st → @Ne Nat D st → LCg.Off3 I C D ((sl, listOf vs.toArray 0) :: (co, oo) :: (cq, oq) :: (cs, os) :: own) → @Ne Nat I C → @Ne Nat I D → @Ne Nat C D →
      wpAny (model prog w) A (eval elt (compEnvC scope cl C env)) (LCg.CompEnd h₀ L m { s₁ with heap := h, toks := tk } I oI C oC D (LCg.lst ys) (fun _ => True) (CsRest G st sl ((sl, listOf vs.toArray 0) :: (co, oo) :: (cq, oq) :: (cs, os) :: own))) E' { s₁ with heap := h, toks := tk })
    (fin : ∀ (H : Heap) i ti y ty ys ws, 0 ≤ i → i ≤ 50 → 0 ≤ y → y < 2147483647 → ((ws.length : Nat) : Int) = b → StrsAre ys ws → (∀ w ∈ ws, G w) → Fin { s₁ with heap := H } ys ((st, stO sl i ti y ty) :: (sl, listOf vs.toArray 0) :: (co, oo) :: (cq, oq) :: (cs, os) :: own)) :
    LCg.CompSrc prog w A h₀ L m env elt x scope cl Fin (.ref r) s₁ := by
  obtain ⟨n, rfl⟩ := Int.eq_ofNat_of_zero_le b0
  have hn : n ≤ 19 := by omega
  have hsm : Builtin.Range.small 0 (n : Int) 1 = true := small_one (by decide) (by decide) (by omega) (by omega)
  have hsz : Builtin.Range.rangeSize 0 (n : Int) 1 = ((n : Nat) : Int) := by
    unfold Builtin.Range.rangeSize
    simp
    omega
  have N' : News h₀ L s₁.heap ((st, stO sl i₀ ti₀ y₀ ty₀) :: (sl, listOf vs.toArray 0) :: (co, oo) :: (cq, oq) :: (cs, os) :: own) := fun p hp => by
    rcases List.mem_cons.mp hp with rfl | hp
    · exact N _ m1
    rcases List.mem_cons.mp hp with rfl | hp
    · exact N _ m2
    rcases List.mem_cons.mp hp with rfl | hp
    · exact N _ m3
    rcases List.mem_cons.mp hp with rfl | hp
    · exact N _ m4
    rcases List.mem_cons.mp hp with rfl | hp
    · exact N _ m5
    exact N _ (m6 p hp)
  refine LCg.CompSrc.range hh F N' hr hsm hsz (by rw [PySem.sizeLine_eq]; omega) ?_
  intro H
  refine comp_st (s := { s₁ with heap := H }) G (fun i ti y ty ys v I oI C oC D m₂ h tk E' => turn H i ti y ty ys v I oI C oC D m₂ h tk E') (fun i ti y ty ys ws a1 a2 a3 a4 hl => fin H i ti y ty ys ws a1 a2 a3 a4 (by rw [hl])) n 0 [] [] i₀ ti₀ y₀ ty₀ (by omega) rfl .nil (fun _ hw => nomatch hw) ⟨i0, i1, y0, y1⟩

theorem compEnd_st {G : Str → Prop} {st sl I C D : Addr} {oI oC oD : Obj} {all : List (Addr × Obj)} {i y : Int} {ti ty : Tok} {g : Str} {t : Tok} {s₁ : Shared} {h' : Heap} {tk : Nat} {vs : List Value} {ns : List Int} {co cq cs : Addr} {oo oq os : Obj} {own : List (Addr × Obj)}
    (M : Mk st sl vs ns co cq cs os own) (F : Fr h₀ L h' m) (N : News h₀ L h' all)
    (k1 : (I, oI) ∈ all) (k2 : (C, oC) ∈ all) (k3 : (D, oD) ∈ all) (m1 : (st, stO sl i ti y ty) ∈ all) (m2 : (sl, listOf vs.toArray 0) ∈ all) (m3 : (co, oo) ∈ all) (m4 : (cq, oq) ∈ all) (m5 : (cs, os) ∈ all) (m6 : ∀ p ∈ own, p ∈ all)
    (n1 : @Ne Nat I st) (n2 : @Ne Nat C st) (n3 : @Ne Nat D st) (off : LCg.Off3 I C D ((sl, listOf vs.toArray 0) :: (co, oo) :: (cq, oq) :: (cs, os) :: own))
    (b0 : 0 ≤ i) (b1 : i ≤ 50) (b2 : 0 ≤ y) (b3 : y < 2147483647) (hg : G g) :
    LCg.CompEnd h₀ L m s₁ I oI C oC D oD (fun _ => True) (CsRest G st sl ((sl, listOf vs.toArray 0) :: (co, oo) :: (cq, oq) :: (cs, os) :: own)) (.str g t) { s₁ with heap := h', toks := tk } :=
  LCg.CompEnd.intro F N ((st, stO sl i ti y ty) :: (sl, listOf vs.toArray 0) :: (co, oo) :: (cq, oq) :: (cs, os) :: own) (fun p hp => by
    rcases List.mem_cons.mp hp with rfl | hp
    · exact k1
    rcases List.mem_cons.mp hp with rfl | hp
    · exact k2
    rcases List.mem_cons.mp hp with rfl | hp
    · exact k3
    rcases List.mem_cons.mp hp with rfl | hp
    · exact m1
    rcases List.mem_cons.mp hp with rfl | hp
    · exact m2
    rcases List.mem_cons.mp hp with rfl | hp
    · exact m3
    rcases List.mem_cons.mp hp with rfl | hp
    · exact m4
    rcases List.mem_cons.mp hp with rfl | hp
    · exact m5
    exact m6 p hp) ⟨⟨Ne.symm n1, Ne.symm n2, Ne.symm n3⟩, off⟩ trivial ⟨⟨i, ti, y, ty, rfl, b0, b1, b2, b3⟩, g, t, rfl, hg⟩
end
/-- an item of a list of texts -/
theorem item_strs {prog : Program} {w : World} {A : Around} {E : Value → Shared → Prop} {s : Shared} {value slice : PySem.Expr} {l : Addr} {vs : List Value} {ws : List Str} {i : Int} {t : Tok} {Q : Value → Shared → Prop}
    (hl : s.heap.IsList l vs.toArray) (hw : StrsAre vs ws) (h0 : 0 ≤ i) (h1 : i < (ws.length : Int)) (hfit : i < 2 ^ 63) (h : ∀ x t', x ∈ ws → Q (.str x t') s)
    (hs : subscripted slice false (.ref l) (.int i t) = operate [.ref l, .int i t] (getItem (.ref l) (.int i t)) := by with_unfolding_all rfl) :
    wpAny (model prog w) A (subscriptTail value slice (.ref l) (.int i t)) Q E s :=
  KTb.item_list hl hw h0 h1 hfit (fun t' hlt => h _ t' (by
    rw [List.getD_eq_getElem?_getD, List.getElem?_eq_getElem hlt]
    exact List.getElem_mem hlt)) hs
end Mine
end

section
open PySem PySem.W PyProof.Rows
namespace Mine
section
variable {prog : Program} {w : World} {A : Around} {E : Value → Shared → Prop} {s : Shared} {Q : Value → Shared → Prop}
theorem join1 {D : Addr} {ys : List Value} {ws : List Str} {b : Int} {t : Tok} (hl : s.heap.IsList D ys.toArray) (hS : StrsAre ys ws) (hG : ∀ w ∈ ws, Sg1 w) (hn : ((ws.length : Nat) : Int) = b) (hb : b ≤ 19)
    (h : ∀ bd t' k, BodyOk bd → bd.length ≤ 19 → Q (.str bd t') { s with toks := k }) : wpAny (model prog w) A (call (.builtin "str.join") [.str (Str.ofString "") t, .ref D]) Q E s :=
  join_listW hl hS (by decide) (body_weight hn hb hG) fun t' k => h _ t' k (body_join hn hb hG) (body_join hn hb hG).1
theorem join2 {D : Addr} {ys : List Value} {ws : List Str} {b : Int} {t : Tok} {o q : Str} (hl : s.heap.IsList D ys.toArray) (hS : StrsAre ys ws) (hG : ∀ w ∈ ws, w ∈ items o q) (hq : q ∈ quos) (ho : o = Str.ofString "'" ∨ o = Str.ofString "\"") (hoq : o ≠ Txt.item q 0) (hn : ((ws.length : Nat) : Int) = b) (hb : b ≤ 8)
    (h : ∀ inn t' k, InnOk q inn → inn.length ≤ 16 → Q (.str inn t') { s with toks := k }) : wpAny (model prog w) A (call (.builtin "str.join") [.str (Str.ofString "") t, .ref D]) Q E s :=
  join_listW hl hS (by decide) (inn_weight ho hn hb hG) fun t' k => h _ t' k (inn_join ho hoq hn hb hG) (inn_len (inn_join ho hoq hn hb hG))
theorem ne_selfS {x : Str} {t u : Tok} (h : Q (.bool false) s) : wpAny (model prog w) A (compareOp .NotEq (.str x t) (.str x u)) Q E s := ne_str (by rw [bne_self_eq_false]; exact h)
theorem ne_selfI {x : Int} {t u : Tok} (h : Q (.bool false) s) : wpAny (model prog w) A (compareOp .NotEq (.int x t) (.int x u)) Q E s := ne_int (by rw [bne_self_eq_false]; exact h)
end
section
variable {prog : Program} {w : World} {A : Around} {h₀ : Heap} {L : Addr} {m : Str → Option Value} {env : Env} {elt : Expr} {x : Str} {scope : Scope} {cl : List (Str × Addr)} {s : Shared}
theorem compSrc_2 {Fin : Shared → List Value → List (Addr × Obj) → Prop} {r : Addr} {b : Int} {t u v : Tok} {s₁ : Shared} {st sl : Addr} {vs : List Value} {ns : List Int} {co cq cs : Addr} {oo oq os : Obj} {own all : List (Addr × Obj)} {i₀ y₀ : Int} {ti₀ ty₀ : Tok} {o q : Str} {t1 t2 : Tok}
    (M : Mk st sl vs ns co cq cs os own) (hh : A.handled = none) (F : Fr h₀ L s₁.heap m) (N : News h₀ L s₁.heap all) (m1 : (st, stO sl i₀ ti₀ y₀ ty₀) ∈ all) (m2 : (sl, listOf vs.toArray 0) ∈ all) (m3 : (co, oo) ∈ all) (m4 : (cq, oq) ∈ all) (m5 : (cs, os) ∈ all) (m6 : ∀ p ∈ own, p ∈ all)
    (ho0 : oo.data = .cell (some (.str o t1))) (hq0 : oq.data = .cell (some (.str q t2)))
    (hr : IsRange s₁.heap r 0 b 1 t u v) (b0 : 0 ≤ b) (b1 : b ≤ 19) (i0 : 0 ≤ i₀) (i1 : i₀ ≤ 50) (y0 : 0 ≤ y₀) (y1 : y₀ < 2147483647)
    (turn : ∀ (H : Heap) i ti y ty ys v I oI C oC D m₂ h tk (E' : Value → Shared → Prop), 0 ≤ i → i ≤ 50 → 0 ≤ y → y < 2147483647 → LCg.NsObj oC m₂ → m₂ x = some v → Fr h₀ L h m → News h₀ L h ((I, oI) :: (C, oC) :: (D, LCg.lst ys) :: (st, stO sl i ti y ty) :: (sl, listOf vs.toArray 0) :: (co, oo) :: (cq, oq) :: (cs, os) :: own) →
      @Ne Nat I st → @Ne Nat C st → @Ne Nat D st → LCg.Off3 I C D ((sl, listOf vs.toArray 0) :: (co, oo) :: (cq, oq) :: (cs, os) :: own) → @Ne Nat I C → @Ne Nat I D → @Ne Nat C D →
      wpAny (model prog w) A (eval elt (compEnvC scope cl C env)) (LCg.CompEnd h₀ L m { s₁ with heap := h, toks := tk } I oI C oC D (LCg.lst ys) (fun _ => True) (CsRest (fun w => w ∈ items o q) st sl ((sl, listOf vs.toArray 0) :: (co, oo) :: (cq, oq) :: (cs, os) :: own))) E' { s₁ with heap := h, toks := tk })
    (fin : ∀ (H : Heap) i ti y ty ys ws, 0 ≤ i → i ≤ 50 → 0 ≤ y → y < 2147483647 → ((ws.length : Nat) : Int) = b → StrsAre ys ws → (∀ w ∈ ws, w ∈ items o q) → Fin { s₁ with heap := H } ys ((st, stO sl i ti y ty) :: (sl, listOf vs.toArray 0) :: (co, oo) :: (cq, oq) :: (cs, os) :: own)) :
    LCg.CompSrc prog w A h₀ L m env elt x scope cl Fin (.ref r) s₁ :=
  compSrc_st (fun w => w ∈ items o q) M hh F N m1 m2 m3 m4 m5 m6 hr b0 b1 i0 i1 y0 y1 turn fin
end
theorem sg_item {j : Int} (h0 : 0 ≤ j) (h1 : j < 5) : Sg1 (Txt.item (Str.ofString " \t\x0c\u00a0a") j) := by
  have e : j = 0 ∨ j = 1 ∨ j = 2 ∨ j = 3 ∨ j = 4 := by omega
  rcases e with rfl | rfl | rfl | rfl | rfl
  · exact ⟨32, by decide +kernel, by decide⟩
  · exact ⟨9, by decide +kernel, by decide⟩
  · exact ⟨12, by decide +kernel, by decide⟩
  · exact ⟨160, by decide +kernel, by decide⟩
  · exact ⟨97, by decide +kernel, by decide⟩
theorem sg_blank : Sg1 (Str.ofString " ") := ⟨32, by decide +kernel, by decide⟩
theorem hoq_t {q : Str} (h : (Txt.item q 0 == Str.ofString "\"") = true) : Str.ofString "'" ≠ Txt.item q 0 := by
  rw [eq_of_beq h]; decide +kernel
theorem hoq_f {q : Str} (hq : q ∈ quos) (h : (Txt.item q 0 == Str.ofString "\"") = false) : Str.ofString "\"" ≠ Txt.item q 0 := fun e => by
  rw [← e] at h; exact absurd h (by decide +kernel)
end Mine
end

section
open PySem PySem.W PyProof.Rows
namespace Mine
local macro_rules | `(tactic| k_all) => `(tactic| first | exact Mk.w1 (by assumption) | exact Mk.w2 (by assumption) | exact Mk.w3 (by assumption))
local macro_rules | `(tactic| walk_at "call ref") => `(tactic| (k_here; k_dflt (refine' next_call ?B ?F ?X ?N ?U ?sl ?T ?hk ?hI ?hl ?hne ?i0 ?i1 ?x0 ?x1 ?m0 ?m1 ?dp ?un ?_; (case B => k_asm); (case F => k_asm); (case X => k_asm); (case N => k_asm); (case U => k_updF); (case sl => k_mem); (case T => k_asm); (case hk => exact rfl); (case hI => exact Mk.hin (by assumption)); (case hl => exact Mk.hle (by assumption)); (case hne => assumption); (case i0 => assumption); (case i1 => assumption); (case x0 => assumption); (case x1 => assumption); (case m0 => decide); (case m1 => decide); (case dp => ktr_room); (case un => ktr_units)); intro r' i' x' t' ti' tx' h' tk' hr0' hr1' hi0' hi1' hx0' hx1' F' N'; (try dsimp only at N'); (try k_sweep); (try dsimp only); (try k_fold)))
local macro_rules | `(tactic| walk_at "call ref") => `(tactic| (k_here; k_dflt (first
  | (refine' mute_last ?B ?F ?X ?N ?T ?hk ?dp ?un ?_; (case B => k_asm); (case F => k_asm); (case X => k_asm); (case N => k_asm); (case T => k_asm); (case hk => exact rfl); (case dp => ktr_room); (case un => ktr_units))
  | (refine' expand_last ?B ?F ?X ?N ?T ?hk ?dp ?un ?_; (case B => k_asm); (case F => k_asm); (case X => k_asm); (case N => k_asm); (case T => k_asm); (case hk => exact rfl); (case dp => ktr_room); (case un => ktr_units))
  | (refine' expand_call ?B ?F ?X ?N ?T ?hk ?dp ?un ?h1 ?h2 ?_; (case B => k_asm); (case F => k_asm); (case X => k_asm); (case N => k_asm); (case T => k_asm); (case hk => exact rfl); (case dp => ktr_room); (case un => ktr_units); (case h1 => assumption); (case h2 => assumption))
  | (refine' width_call ?B ?F ?X ?N ?T ?hk ?dp ?un ?h1 ?_; (case B => k_asm); (case F => k_asm); (case X => k_asm); (case N => k_asm); (case T => k_asm); (case hk => exact rfl); (case dp => ktr_room); (case un => ktr_units); (case h1 => assumption))
  | (refine' mute_call1 ?B ?F ?X ?N ?T ?hk ?dp ?un ?h1 ?h2 ?h3 ?_; (case B => k_asm); (case F => k_asm); (case X => k_asm); (case N => k_asm); (case T => k_asm); (case hk => exact rfl); (case dp => ktr_room); (case un => ktr_units); (case h1 => assumption); (case h2 => assumption); (case h3 => with_reducible assumption))
  | (refine' mute_call2 ?B ?F ?X ?N ?T ?hk ?dp ?un ?h1 ?h2 ?h3 ?_; (case B => k_asm); (case F => k_asm); (case X => k_asm); (case N => k_asm); (case T => k_asm); (case hk => exact rfl); (case dp => ktr_room); (case un => ktr_units); (case h1 => assumption); (case h2 => assumption); (case h3 => assumption))); intro t' h' tk' F' N'; (try k_sweep); (try dsimp only); (try k_fold)))
local macro_rules | `(tactic| walk_at "CompEnd") => `(tactic| (k_dflt (refine' compEnd_st ?M ?F ?N ?k1 ?k2 ?k3 ?m1 ?m2 ?m3 ?m4 ?m5 ?m6 ?n1 ?n2 ?n3 ?off ?b0 ?b1 ?b2 ?b3 ?hg; (case M => assumption); (case F => k_asm); (case N => k_asm); (case k1 => k_mem); (case k2 => k_mem); (case k3 => k_mem); (case m1 => k_mem); (case m2 => k_mem); (case m3 => k_mem); (case m4 => k_mem); (case m5 => k_mem); (case m6 => (intro p hp; repeat' (first | exact hp | refine List.Mem.tail _ ?_))); (case n1 => assumption); (case n2 => assumption); (case n3 => assumption); (case off => assumption); (case b0 => assumption); (case b1 => assumption); (case b2 => assumption); (case b3 => assumption); (case hg => first | assumption | exact sg_blank | exact sg_item (Int.fmod_nonneg_of_pos _ (by decide)) (Int.fmod_lt_of_pos _ (by decide))))))
local macro_rules | `(tactic| walk_at "call builtin:str.join") => `(tactic| (k_here; k_dflt (first
  | (refine' join1 ?l ?hS ?hG ?hn ?hb ?_; (case l => is_list); (case hS => assumption); (case hG => assumption); (case hn => assumption); (case hb => omega))
  | (refine' join2 ?l ?hS ?hG ?hq ?ho ?hoq ?hn ?hb ?_; (case l => is_list); (case hS => assumption); (case hG => assumption); (case hq => assumption); (case ho => first | exact Or.inl rfl | exact Or.inr rfl); (case hoq => first | assumption | exact hoq_t (by assumption) | exact hoq_f (by assumption) (by assumption)); (case hn => assumption); (case hb => omega))); intro bd' t' tk' hB' hL'))
local macro_rules | `(tactic| walk_at "subscriptTail") => `(tactic| (k_here; (with_reducible show wpAny _ _ (subscriptTail _ _ (Value.ref _) (Value.int _ _)) _ _ _); k_dflt (refine' item_strs ?l ?hw ?h0 ?h1 ?hf ?_ ?hs; (case l => is_list); (case hw => (repeat' (first | exact StrsAre.nil | refine' StrsAre.cons _ _ ?_))); (case h0 => omega); (case h1 => (simp only [List.length_cons, List.length_nil]; omega)); (case hf => omega); (case hs => with_unfolding_all rfl)); intro x' t' hm'; (first | (have hl' := end_len hm') | (have hl' := quo_len hm'; obtain ⟨hl', hl''⟩ := hl') | (have hl' := pre_len hm') | skip)))
local macro_rules | `(tactic| walk_at "compareOp NotEq str str") => `(tactic| (k_here; with_reducible refine ne_selfS ?_))
local macro_rules | `(tactic| walk_at "compareOp NotEq int int") => `(tactic| (k_here; with_reducible refine ne_selfI ?_))
local macro_rules | `(tactic| walk_at "InvEndN") => `(tactic| (k_dflt (first
  | (refine' end1 ?M ?F ?N ?m1 ?m2 ?m3 ?m4 ?m5 ?m6 ?b0 ?b1 ?b2 ?b3; (case M => assumption); (case F => k_asm); (case N => k_asm); (case m1 => k_mem); (case m2 => k_mem); (case m3 => k_mem); (case m4 => k_mem); (case m5 => k_mem); (case m6 => (intro p hp; repeat' (first | exact hp | refine List.Mem.tail _ ?_))); (case b0 => assumption); (case b1 => assumption); (case b2 => assumption); (case b3 => assumption))
  | (refine' end2 ?M ?F ?N ?m1 ?m2 ?m3 ?m4 ?m5 ?m6 ?b0 ?b1 ?b2 ?b3 ?e1 ?e2; (case M => assumption); (case F => k_asm); (case N => k_asm); (case m1 => k_mem); (case m2 => k_mem); (case m3 => k_mem); (case m4 => k_mem); (case m5 => k_mem); (case m6 => (intro p hp; repeat' (first | exact hp | refine List.Mem.tail _ ?_))); (case b0 => assumption); (case b1 => assumption); (case b2 => assumption); (case b3 => assumption); (case e1 => assumption); (case e2 => assumption)))))
local macro_rules | `(tactic| walk_at "CompSrc") => `(tactic| k_extra "CompSrc")
set_option maxRecDepth 100000 in
set_option maxHeartbeats 8000000 in
theorem walk : PySem.Challenge.rw_bg5016_01.Holds := by
  refine hd ?_
  k_with_none
  k_with "pyIter ref" => (k_here; k_dflt (refine' loop1 ?hh ?hr ?F ?N ?sd ?hI ?hl ?hb ?hne (fun i' ti' y' ty' k' t' m' h' tk' own' M' b0' b1' b2' b3' F' N' => ?_) (fun i' ti' y' ty' m' h' tk' b' F' N' => ?_); (case hh => rfl); (case hr => assumption); (case F => k_asm); (case N => k_asm); (case sd => assumption); (case hI => assumption); (case hl => omega); (case hb => exact ⟨by decide, by decide, by decide, by decide⟩); (case hne => refine ⟨⟨?_, ?_, ?_, ?_⟩, ⟨?_, ?_⟩, ?_, ?_, ?_⟩ <;> k_ne)); (all_goals (try (have e1' := M'.n1; have e2' := M'.n2; have e3' := M'.n3; have e4' := M'.n4; have e5' := M'.n5; have e6' := M'.n6; have e7' := M'.n7; have e8' := M'.n8; have e9' := M'.n9; have e10' := M'.sd))); (all_goals (try k_sweep)); (all_goals (try k_fold)))
  k_with "CompSrc" => (k_here; k_dflt (refine' compSrc_st Sg1 ?M ?hh ?F ?N ?m1 ?m2 ?m3 ?m4 ?m5 ?m6 ?hr ?b0 ?b1 ?i0 ?i1 ?y0 ?y1 (fun H' i' ti' y' ty' ys' v' I' oI' C' oC' D' m₂' h' tk' E' hi0' hi1' hy0' hy1' hC' hx' F' N' n1' n2' n3' off' n4' n5' n6' => ?_) (fun H' i' ti' y' ty' ys' ws' hi0' hi1' hy0' hy1' hn' hS' hG' => ?_); (case M => assumption); (case hh => rfl); (case F => k_asm); (case N => k_asm); (case m1 => k_mem); (case m2 => k_mem); (case m3 => k_mem); (case m4 => k_mem); (case m5 => k_mem); (case m6 => (intro p hp; repeat' (first | exact hp | refine List.Mem.tail _ ?_))); (case hr => assumption); (case b0 => omega); (case b1 => omega); (case i0 => assumption); (case i1 => assumption); (case y0 => assumption); (case y1 => assumption)); (all_goals (try k_sweep)); (all_goals (try k_fold)))
  k_with "pyIter ref" => (k_here; k_dflt (refine' loop2 ?hh ?hr ?F ?N ?sd ?h1 ?h2 ?hI ?hl ?hb ?hne (fun i' ti' y' ty' oo' oq' v1' v2' k' t' m' h' tk' own' M' b0' b1' b2' b3' ho' hq' F' N' => ?_) (fun m' h' tk' F' N' => ?_); (case hh => rfl); (case hr => assumption); (case F => k_asm); (case N => k_asm); (case sd => assumption); (case h1 => assumption); (case h2 => assumption); (case hI => assumption); (case hl => omega); (case hb => assumption); (case hne => refine ⟨⟨?_, ?_, ?_, ?_⟩, ⟨?_, ?_⟩, ?_, ?_, ?_⟩ <;> k_ne)); (all_goals (try (have e1' := M'.n1; have e2' := M'.n2; have e3' := M'.n3; have e4' := M'.n4; have e5' := M'.n5; have e6' := M'.n6; have e7' := M'.n7; have e8' := M'.n8; have e9' := M'.n9; have e10' := M'.sd))); (all_goals (try k_sweep)); (all_goals (try k_fold)))
  k_with "CompSrc" => (k_here; k_dflt (refine' compSrc_2 ?M ?hh ?F ?N ?m1 ?m2 ?m3 ?m4 ?m5 ?m6 ?ho ?hq ?hr ?b0 ?b1 ?i0 ?i1 ?y0 ?y1 (fun H' i' ti' y' ty' ys' v' I' oI' C' oC' D' m₂' h' tk' E' hi0' hi1' hy0' hy1' hC' hx' F' N' n1' n2' n3' off' n4' n5' n6' => ?_) (fun H' i' ti' y' ty' ys' ws' hi0' hi1' hy0' hy1' hn' hS' hG' => ?_); (case M => assumption); (case hh => rfl); (case F => k_asm); (case N => k_asm); (case m1 => k_mem); (case m2 => k_mem); (case m3 => k_mem); (case m4 => k_mem); (case m5 => k_mem); (case m6 => (intro p hp; repeat' (first | exact hp | refine List.Mem.tail _ ?_))); (case ho => assumption); (case hq => assumption); (case hr => assumption); (case b0 => omega); (case b1 => omega); (case i0 => assumption); (case i1 => assumption); (case y0 => assumption); (case y1 => assumption)); (all_goals (try k_sweep)); (all_goals (try k_fold)))
  w_strict (k_go0; (all_goals try k_fold); k_steps)
end Mine
end

theorem PySem.Challenge.cw_bg5016_01_holds : PySem.Challenge.rw_bg5016_01.Holds :=
  Mine.walk
